import Derived.Test.Qxb6619735aSep
import Derived.ProofKit
namespace Go.Proofs.Qxb6619735a
open Go.RowKit

namespace Pl
section
variable {l : List UInt8} {k j : Nat}
/-- the model's outer loop stands at k: the automaton is in a run, or a run begins here -/
def Md (l : List UInt8) (k : Nat) : Prop := ∃ q, q ≠ 4 ∧ (q = 1 ∨ ∃ h : k < l.length, al l[k] = true) ∧ acc l = accq q (l.drop k)
theorem md_start (h0 : 0 < l.length) (h : al l[0] = true) : Md l 0 := ⟨0, by omega, .inr ⟨h0, h⟩, by rw [acc_eq, List.drop_zero]⟩
theorem md_al (h : Md l k) (hk : k < l.length) (ha : al l[k] = true) : Md l (k + 1) := by
  obtain ⟨q, hq, _, e⟩ := h
  exact ⟨1, by omega, .inl rfl, by rw [e, accq_at _ _ _ hk, st_al _ _ hq ha]⟩
theorem md_end (h : Md l k) (hk : l.length ≤ k) : acc l = true := by
  obtain ⟨q, hq, h1, e⟩ := h
  rcases h1 with rfl | ⟨h, _⟩
  · rw [e, accq_end _ _ _ hk]; rfl
  · omega
theorem md_nal (h : Md l k) (hk : k < l.length) (ha : al l[k] = false) : acc l = accq 1 (l.drop k) := by
  obtain ⟨q, hq, h1, e⟩ := h
  rcases h1 with rfl | ⟨_, h⟩
  · exact e
  · rw [ha] at h; exact Bool.noConfusion h
def Gap (l : List UInt8) (k j : Nat) : Prop := ∀ t (ht : t < l.length), k ≤ t → t < j → al l[t] = false
theorem gap_snoc (h : Gap l k j) {hj : j < l.length} (hc : al l[j] = false) : Gap l k (j + 1) := by
  intro t ht h1 h2
  by_cases e : t = j
  · subst e; exact hc
  · exact h t ht h1 (by omega)
theorem gap_sep (hkj : k < j) (hj : j ≤ l.length) (hg : Gap l k j) : (run 1 (seg l k j) != 4) = sepL (seg l k j) := by
  have hl := seg_len (i := k) hj
  refine sep_run _ ?_ ?_
  · intro c hc
    obtain ⟨t, ht, rfl⟩ := List.mem_iff_getElem.1 hc
    rw [seg_at hj t ht]
    exact hg _ _ (by omega) (by omega)
  · intro e; rw [e] at hl; simp at hl; omega
theorem md_no (h : acc l = accq 1 (l.drop k)) (hkj : k < j) (hj : j ≤ l.length) (hg : Gap l k j) (hs : sepL (seg l k j) = false) : acc l = false := by
  rw [← gap_sep hkj hj hg] at hs
  have : run 1 (seg l k j) = 4 := by simpa using hs
  rw [h, accq_seg l 1 k j (by omega)]
  show accq (run 1 (seg l k j)) _ = false
  rw [this, accq_dead]
theorem md_yes (h : acc l = accq 1 (l.drop k)) (hkj : k < j) (hj : j ≤ l.length) (hg : Gap l k j) (hs : sepL (seg l k j) = true)
    (hn : ∀ hj : j < l.length, al l[j] = true) (h0 : 0 < l.length) (hlast : al l[l.length - 1] = true) : Md l j := by
  rw [← gap_sep hkj hj hg] at hs
  have hr : run 1 (seg l k j) ≠ 4 := by simpa using hs
  refine ⟨run 1 (seg l k j), hr, ?_, by rw [h, accq_seg l 1 k j (by omega)]; rfl⟩
  by_cases e : j < l.length
  · exact .inr ⟨e, hn e⟩
  · have := hg (l.length - 1) (by omega) (by omega) (by omega)
    rw [hlast] at this; exact Bool.noConfusion this
end
end Pl

set_option maxHeartbeats 1000000 in
theorem model_any (s : ByteArray) (w : World) (hs : s.size ≤ maxLen) :
    Calls Try.prog 8 #[.string s] w fun e w' => e = .returned (.bool (Pl.acc s.data.toList)) ∧ w' = w := by
  have hs' := hs
  unfold maxLen at hs
  have HS : Hid (s.data.toList.length = s.size) := by show s.data.toList.length = s.size; simp
  by_cases h0 : s.size = 0
  · have hb : ((s.size : Int) == 0) = true := by simp [h0]
    have HR : Hid (Pl.acc s.data.toList = false) := by
      have : s.data.toList = [] := List.eq_nil_of_length_eq_zero (by rw [HS.out, h0])
      show Pl.acc _ = false
      rw [this]; rfl
    go_enter Try.func8, Try.ntmps8
    go_wp2
    go_ret
    exact ⟨ret_bool HR.out.symm, rfl⟩
  have hb : ((s.size : Int) == 0) = false := by simp [h0]
  have hp : 0 < s.size := by omega
  have hp' : 0 < s.data.toList.length := by rw [HS.out]; exact hp
  have hl1 : s.size - 1 < s.size := by omega
  by_cases c0 : alI (s[0].toNat : Int) = true
  · by_cases c1 : alI (s[s.size - 1].toNat : Int) = true
    · have HL : Hid (Pl.al (s.data.toList[s.data.toList.length - 1]'(by omega)) = true) := by
        show Pl.al _ = true
        rw [← alI_al]
        have : ∀ n (hn : n < s.data.toList.length), n = s.size - 1 → s.data.toList[n] = s[s.size - 1] := fun n hn e => by subst e; rfl
        rw [this _ _ (by rw [HS.out])]; exact c1
      have HM : Hid (Pl.Md s.data.toList 0) := Pl.md_start hp' (by rw [← alI_al]; exact c0)
      go_enter Try.func8, Try.ntmps8
      go_wp2_with (go_at_call 14; refine (aln_any _ _).mono ?_; rintro e w' ⟨rfl, rfl⟩)
      go_loop [4] (fun i => ∃ k : Nat, k ≤ s.size ∧ i = .int .i64 k ∧ Pl.Md s.data.toList k) (fun i => s.size - (intOf i).toNat)
      case atStart => exact ⟨0, Nat.zero_le _, rfl, HM.out⟩
      case round =>
        obtain ⟨k, hk, rfl, hmd⟩ := hrel
        clear HM
        by_cases hlt : k < s.size
        · have hlt' : k < s.data.toList.length := by rw [HS.out]; exact hlt
          by_cases d0 : alI (s[k].toNat : Int) = true
          · go_wp2_with (go_at_call 14; refine (aln_any _ _).mono ?_; rintro e w' ⟨rfl, rfl⟩)
            go_round
            case rel => exact ⟨k + 1, by omega, by go_num, Pl.md_al hmd hlt' (by rw [← alI_al]; exact d0)⟩
            case measure => simp [intOf]; omega
          · have d0' : alI (s[k].toNat : Int) = false := by simpa using d0
            have HK : Hid (Pl.al s.data.toList[k] = false) := by show Pl.al _ = false; rw [← alI_al]; exact d0'
            have HQ : Hid (Pl.acc s.data.toList = Pl.accq 1 (s.data.toList.drop k)) := Pl.md_nal hmd hlt' HK.out
            clear d0 hmd
            go_wp2_with (go_at_call 14; refine (aln_any _ _).mono ?_; rintro e w' ⟨rfl, rfl⟩)
            go_loop [5] (fun i => ∃ j : Nat, k ≤ j ∧ j ≤ s.size ∧ i = .int .i64 j ∧ Pl.Gap s.data.toList k j) (fun i => s.size - (intOf i).toNat)
            case atStart => exact ⟨k, Nat.le_refl _, hk, rfl, fun t _ h1 h2 => by omega⟩
            case round =>
              obtain ⟨j, hkj, hj, rfl, hg⟩ := hrel
              by_cases hjl : j < s.size
              · have hjl' : j < s.data.toList.length := by rw [HS.out]; exact hjl
                by_cases d1 : alI (s[j].toNat : Int) = true
                · have hne : k < j := by
                    by_cases e : j = k
                    · subst e; rw [d1] at d0'; exact Bool.noConfusion d0'
                    · omega
                  have HJ : Hid (∀ h : j < s.data.toList.length, Pl.al s.data.toList[j] = true) := fun h => by rw [← alI_al]; exact d1
                  cases hsep : Pl.sepL (Pl.seg s.data.toList k j)
                  · have HR : Hid (Pl.acc s.data.toList = false) := Pl.md_no HQ.out hne (by omega) hg hsep
                    have HP : Hid (Pl.sepL (Pl.seg s.data.toList k j) = false) := hsep
                    clear hsep hg
                    go_wp2_with (go_at_call 14; refine (aln_any _ _).mono ?_; rintro e w' ⟨rfl, rfl⟩)
                    refine (sep_any s k j _ hs' hne hj).mono ?_
                    rintro e w' ⟨rfl, rfl⟩
                    rw [HP.out]
                    go_wp2
                    go_ret
                    exact ⟨ret_bool HR.out.symm, rfl⟩
                  · have HR : Hid (Pl.Md s.data.toList j) := Pl.md_yes HQ.out hne (by omega) hg hsep HJ.out hp' HL.out
                    have HP : Hid (Pl.sepL (Pl.seg s.data.toList k j) = true) := hsep
                    clear hsep hg
                    go_wp2_with (go_at_call 14; refine (aln_any _ _).mono ?_; rintro e w' ⟨rfl, rfl⟩)
                    refine (sep_any s k j _ hs' hne hj).mono ?_
                    rintro e w' ⟨rfl, rfl⟩
                    rw [HP.out]
                    go_wp2
                    go_round
                    case rel => exact ⟨j, by omega, by go_num, HR.out⟩
                    case measure => simp [intOf]; omega
                · have d1' : alI (s[j].toNat : Int) = false := by simpa using d1
                  have HG : Hid (Pl.Gap s.data.toList k (j + 1)) := Pl.gap_snoc hg (hj := hjl') (by rw [← alI_al]; exact d1')
                  clear d1 hg
                  go_wp2_with (go_at_call 14; refine (aln_any _ _).mono ?_; rintro e w' ⟨rfl, rfl⟩)
                  go_round
                  case rel => exact ⟨j + 1, by omega, by omega, by go_num, HG.out⟩
                  case measure => simp [intOf]; omega
              · have hne : k < j := by omega
                cases hsep : Pl.sepL (Pl.seg s.data.toList k j)
                · have HR : Hid (Pl.acc s.data.toList = false) := Pl.md_no HQ.out hne (by rw [HS.out]; exact hj) hg hsep
                  have HP : Hid (Pl.sepL (Pl.seg s.data.toList k j) = false) := hsep
                  clear hsep hg
                  go_wp2_with (go_at_call 14; refine (aln_any _ _).mono ?_; rintro e w' ⟨rfl, rfl⟩)
                  refine (sep_any s k j _ hs' hne hj).mono ?_
                  rintro e w' ⟨rfl, rfl⟩
                  rw [HP.out]
                  go_wp2
                  go_ret
                  exact ⟨ret_bool HR.out.symm, rfl⟩
                · have HR : Hid (Pl.Md s.data.toList j) := Pl.md_yes HQ.out hne (by rw [HS.out]; exact hj) hg hsep (fun h => absurd (by rw [HS.out] at h; exact h) hjl) hp' HL.out
                  have HP : Hid (Pl.sepL (Pl.seg s.data.toList k j) = true) := hsep
                  clear hsep hg
                  go_wp2_with (go_at_call 14; refine (aln_any _ _).mono ?_; rintro e w' ⟨rfl, rfl⟩)
                  refine (sep_any s k j _ hs' hne hj).mono ?_
                  rintro e w' ⟨rfl, rfl⟩
                  rw [HP.out]
                  go_wp2
                  go_round
                  case rel => exact ⟨j, by omega, by go_num, HR.out⟩
                  case measure => simp [intOf]; omega
        · have HR : Hid (Pl.acc s.data.toList = true) := Pl.md_end hmd (by rw [HS.out]; omega)
          go_wp2
          go_ret
          exact ⟨ret_bool HR.out.symm, rfl⟩
    · have c1' : alI (s[s.size - 1].toNat : Int) = false := by simpa using c1
      have HR : Hid (Pl.acc s.data.toList = false) := by
        refine Pl.acc_last _ hp' ?_
        rw [← alI_al]
        have : ∀ n (hn : n < s.data.toList.length), n = s.size - 1 → s.data.toList[n] = s[s.size - 1] := fun n hn e => by subst e; rfl
        rw [this _ _ (by rw [HS.out])]; exact c1'
      clear c1
      go_enter Try.func8, Try.ntmps8
      go_wp2_with (go_at_call 14; refine (aln_any _ _).mono ?_; rintro e w' ⟨rfl, rfl⟩)
      go_ret
      exact ⟨ret_bool HR.out.symm, rfl⟩
  · have c0' : alI (s[0].toNat : Int) = false := by simpa using c0
    have HR : Hid (Pl.acc s.data.toList = false) := Pl.acc_first _ hp' (by rw [← alI_al]; exact c0')
    clear c0
    go_enter Try.func8, Try.ntmps8
    go_wp2_with (go_at_call 14; refine (aln_any _ _).mono ?_; rintro e w' ⟨rfl, rfl⟩)
    go_ret
    exact ⟨ret_bool HR.out.symm, rfl⟩
end Go.Proofs.Qxb6619735a
