import Derived.Test.Qxb6617374aResult
namespace Go.Proofs.Qxb6617374a
open Go.RowKit
attribute [local go_sem] run_store_float set_set

set_option maxRecDepth 20000 in
set_option maxHeartbeats 2000000 in
theorem result_nan (tb : Nat) (nodes rounds pairs bytes all : Int) (fb : Nat) (ac ad : Option Addr) (nc cc nd cd : Nat) (s : ByteArray) (D : Nat → Int) (w : World)
    (hdiv : FloatKind.f64.format.div fb (floatOfInt .f64 rounds) = none)
    (ht : tb < w.heap.size) (hT : Tally w tb nodes rounds pairs bytes fb ac ad nc cc nd cd) (hD : VRow w ad nd (fun i => .int .i64 (D i)))
    (b1 : 1 ≤ rounds) (b2 : rounds ≤ 1073741824) (b3 : 0 ≤ bytes) (b4 : bytes ≤ 1152921504606846976) (hall : nodes * (nc : Int) = all) (b5 : 0 ≤ all) (b6 : all ≤ 16777216) (b7 : 0 ≤ pairs) (b8 : pairs ≤ all) (b9 : nd ≤ 131072)
    (hdb : ∀ i, i < nd → 0 ≤ D i ∧ D i ≤ 1073741824) :
    Calls Try.prog 12 #[.pointer (some ⟨tb, 0, none⟩), .string s] w fun e w' => ∃ v, e = .returned v ∧ ROk v s nodes rounds pairs bytes all nc nd fb D ∧ Below w.heap.size w w' := by
  obtain ⟨t0, t1, t2, t5, t6, t7, t8⟩ := hT
  have hq := run_quo_nan (P := Try.prog) 24 fb (floatOfInt .f64 rounds) hdiv
  obtain ⟨r, hr⟩ : ∃ r, r = nanOf fb (floatOfInt .f64 rounds) w.drew := ⟨_, rfl⟩
  have hf : FOk fb (floatOfInt .f64 rounds) r := .inr ⟨hdiv, by rw [hr]; exact nan_of _ _ _⟩
  have hn1 : ∀ o, nanOf fb (floatOfInt .f64 rounds) (w.alloc o).drew = r := fun o => by rw [hr]; rfl
  have hn2 : ∀ o o', nanOf fb (floatOfInt .f64 rounds) ((w.alloc o).alloc o').drew = r := fun o o' => by rw [hr]; rfl
  clear hr hdiv
  have e1 : IntKind.i64.wrap (2 * bytes) = 2 * bytes := by rw [IntKind.wrap_i64]; omega
  obtain ⟨p2, hp2⟩ : ∃ p2, p2 = 2 * bytes + rounds := ⟨_, rfl⟩
  obtain ⟨r2, hr2⟩ : ∃ r2, r2 = 2 * rounds := ⟨_, rfl⟩
  have e2 : IntKind.i64.wrap (2 * bytes + rounds) = p2 := by rw [IntKind.wrap_i64]; omega
  have e3 : IntKind.i64.wrap (2 * rounds) = r2 := by rw [IntKind.wrap_i64]; omega
  have hz : ¬ r2 = 0 := by omega
  obtain ⟨q, hqq⟩ : ∃ q, q = p2 / r2 := ⟨_, rfl⟩
  have e4 : IntKind.i64.wrap (p2.tdiv r2) = q := by rw [IntWalk.i64_quo p2 r2 ⟨by omega, by omega, by omega⟩, hqq]
  have HQ2 : Hid (q = (2 * bytes + rounds) / (2 * rounds)) := by show q = _; rw [hqq, hp2, hr2]
  have HF : Hid (FOk fb (floatOfInt .f64 rounds) r) := hf
  have HV : Hid (VRow w ad nd (fun i => .int .i64 (D i))) := hD
  have HDB : Hid (∀ i, i < nd → 0 ≤ D i ∧ D i ≤ 1073741824) := hdb
  have m1 : wrap64 (nodes * (nc : Int)) = all := by rw [hall]; unfold wrap64; omega
  have m2 : IntKind.i64.wrap (nodes * (nc : Int)) = all := by rw [hall, IntKind.wrap_i64]; omega
  clear hp2 hr2 hqq hf hD hdb hall
  go_enter Try.func12, Try.ntmps12
  go_wp2
  go_region_held (fun w' => w'.cell? ⟨tb, 0, none⟩ = some (.int .i64 nodes) ∧ w'.cell? ⟨tb, 1, none⟩ = some (.int .i64 rounds) ∧ w'.cell? ⟨tb, 2, none⟩ = some (.slice ac nc cc) ∧ w'.cell? ⟨tb, 7, none⟩ = some (.int .i64 bytes) ∧ w'.cell? ⟨tb, 8, none⟩ = some (.float .f64 fb)) (go_keep) (fail)
  all_goals
    clear e1 e2 e3 e4 hz hq hn1 hn2
    go_wp2
    go_quiet (fail)
    by_cases h0 : all = 0
    · have hb0 : (all == 0) = true := by rw [h0]; rfl
      have H0 : Hid (all = 0) := h0
      clear h0
      go_wp2
      refine bodyPost_ret (v := .agg #[.string s, .int .i64 nodes, .int .i64 rounds, .int .i64 (nc : Int), .int .i64 q, .float .f64 r, .int .i64 0, .int .i64 10000]) (by simp [results, Try.results12, go_sem]) rfl ⟨_, rfl, ⟨r, 0, 10000, by rw [HQ2.out], HF.out, .inl ⟨H0.out, rfl, rfl⟩⟩, ?_⟩
      refine below8 ?_ (Nat.le_refl _) _ _ _ _ _ _ _ _
      refine below_drewN ?_ _
      exact below2 _ _ _
    · have hb0 : (all == 0) = false := by rw [beq_eq_false_iff_ne]; exact h0
      have hap : 0 < all := by omega
      obtain ⟨rk, hrk⟩ : ∃ rk, rk = (99 * all + 99) / 100 := ⟨_, rfl⟩
      have hrk1 : 1 ≤ rk := by omega
      have hrk2 : rk ≤ 16777216 := by omega
      have HRK : Hid (rk = (99 * all + 99) / 100) := hrk
      clear hrk
      go_wp2
      clear m1 m2
      go_loop [7, 82] (fun rr i => ∃ k : Nat, k ≤ nd ∧ i = .int .i64 k ∧ rr = .int .i64 (rk - sumD D k) ∧ sumD D k < rk) (fun _ i => nd - (intOf i).toNat)
      case atStart => exact ⟨0, Nat.zero_le _, rfl, by rw [← HRK.out]; simp [sumD], by simp only [sumD]; omega⟩
      case round =>
        obtain ⟨k, hk, rfl, rfl, hsk⟩ := hrel
        have hsb := sumD_bd D nd HDB.out k hk
        by_cases hlt : k < nd
        · obtain ⟨b, off, rfl, hb, hc⟩ := HV.out.2 (by omega)
          have g1 : w.cell? ⟨b, off + k, none⟩ = some (.int .i64 (D k)) := hc k hlt
          have hdk := HDB.out k hlt
          have HS : Hid (sumD D (k + 1) = sumD D k + D k) := rfl
          have n1 : ¬ b = w.heap.size := by omega
          have n2 : ¬ b = w.heap.size + 1 := by omega
          have i1 : (k : Int) < (nd : Int) := by omega
          clear hc
          generalize hskk : sumD D k = sk at *
          have HSK : Hid (sumD D k = sk) := hskk
          clear hskk
          by_cases hst : rk - sk ≤ D k
          · have HP : Hid (P99 D nd rk (k : Int)) := .inr ⟨k, hlt, rfl, by rw [HSK.out]; exact hsk, by rw [HS.out]; omega⟩
            go_wp2
            refine bodyPost_ret (v := .agg #[.string s, .int .i64 nodes, .int .i64 rounds, .int .i64 (nc : Int), .int .i64 q, .float .f64 r, .int .i64 (k : Int), .int .i64 (pairs * 10000 / all)]) (by simp [results, Try.results12, go_sem]) rfl ⟨_, rfl, ⟨r, k, _, by rw [HQ2.out], HF.out, .inr ⟨hap, rfl, by rw [← HRK.out]; exact HP.out⟩⟩, ?_⟩
            refine below8 ?_ (Nat.le_refl _) _ _ _ _ _ _ _ _
            refine Below.setCell (Below.setCell ?_ (by simp) _) (by simp) _
            refine below_drewN ?_ _
            exact below2 _ _ _
          · go_wp2
            go_round
            case rel => exact ⟨k + 1, by omega, by go_num, by rw [HS.out]; go_num, by rw [HS.out]; omega⟩
            case measure => simp [intOf]; omega
        · have hkn : k = nd := by omega
          have HP : Hid (P99 D nd rk (-1)) := .inl ⟨rfl, by rw [← hkn]; exact hsk⟩
          clear hkn
          go_wp2
          refine bodyPost_ret (v := .agg #[.string s, .int .i64 nodes, .int .i64 rounds, .int .i64 (nc : Int), .int .i64 q, .float .f64 r, .int .i64 (-1), .int .i64 (pairs * 10000 / all)]) (by simp [results, Try.results12, go_sem]) rfl ⟨_, rfl, ⟨r, -1, _, by rw [HQ2.out], HF.out, .inr ⟨hap, rfl, by rw [← HRK.out]; exact HP.out⟩⟩, ?_⟩
          refine below8 ?_ (Nat.le_refl _) _ _ _ _ _ _ _ _
          refine Below.setCell (Below.setCell ?_ (by simp) _) (by simp) _
          refine below_drewN ?_ _
          exact below2 _ _ _
end Go.Proofs.Qxb6617374a
