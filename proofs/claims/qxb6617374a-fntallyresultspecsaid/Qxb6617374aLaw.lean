import Derived.Test.Qxb6617374aZZ
import Derived.Test.Qxb6617374aArith
namespace Go.Proofs.Qxb6617374a
open Go.RowKit
attribute [local go_sem] run_store_float set_set

/-- one quotient: the world reads as it did -/
theorem quo_still (t : TypeId) (x y : Nat) : ∃ (f : World → Nat) (g : World → World), (∀ w, (binOp .quo t (.float .f64 x) (.float .f64 y)).run Try.prog w = .ok (.float .f64 (f w)) (g w)) ∧ (∀ w, FOk x y (f w)) ∧ (∀ w a, (g w).cell? a = w.cell? a) ∧ (∀ B W w, Below B W w → Below B W (g w)) := by
  obtain ⟨f, g, h1, h2, h3⟩ := quo_run t x y
  refine ⟨f, g, h1, h2, ?_⟩
  rcases h3 with h | h
  · exact ⟨fun w a => by rw [h], fun B W w hb => by rw [h]; exact hb⟩
  · exact ⟨fun w a => by rw [h]; rfl, fun B W w hb => by rw [h]; exact hb.drew⟩

namespace fnTallyResultSpec
set_option maxRecDepth 20000 in
set_option maxHeartbeats 4000000 in
theorem walk (nodes rounds : Int) (a2 : Option Addr) (nc cc : Nat) (M : Nat → Int) (a3 : Option Addr) (nh ch : Nat) (A : Nat → Option Addr) (L C : Nat → Nat) (X : Nat → Nat → Int) (a4 : Option Addr) (no co : Nat) (O : Nat → Int)
    (pairs : Int) (a6 : Option Addr) (nd cd : Nat) (D : Nat → Int) (bytes : Int) (fb : Nat) (seen : Int) (s : ByteArray) (w : World)
    (v2 : SRow w a2 nc cc (fun i => .int .i64 (M i))) (v3 : HRow w a3 nh ch A L C X) (v4 : SRow w a4 no co (fun i => .int .i64 (O i))) (v6 : SRow w a6 nd cd (fun i => .int .i64 (D i))) :
    Calls Try.prog 3 #[.int .i64 nodes, .int .i64 rounds, .slice a2 nc cc, .slice a3 nh ch, .slice a4 no co, .int .i64 pairs, .slice a6 nd cd, .int .i64 bytes, .float .f64 fb, .int .i64 seen, .string s] w
      fun e w' => e = .returned (.bool true) ∧ Below w.heap.size w w' := by
  have H2 : Hid (SRow w a2 nc cc (fun i => .int .i64 (M i))) := v2
  have H3 : Hid (HRow w a3 nh ch A L C X) := v3
  have H4 : Hid (SRow w a4 no co (fun i => .int .i64 (O i))) := v4
  have H6 : Hid (SRow w a6 nd cd (fun i => .int .i64 (D i))) := v6
  clear v2 v3 v4 v6
  go_enter Try.func3, Try.ntmps3
  go_wp2_with fail
  refine (bytes_any nodes rounds pairs bytes seen fb a2 a3 a4 a6 nc cc nh ch no co nd cd s A L C _ H2.out.2.1 H3.out.1.2).mono ?_
  rintro e w' ⟨⟨b, rfl⟩, rfl⟩
  cases b with
  | false =>
    go_wp2
    go_ret
    exact ⟨rfl, Below.refl _ _⟩
  | true =>
  go_wp2_with fail
  refine (domain_any nodes rounds pairs bytes a2 a3 a4 a6 nc cc nh ch no co nd cd s A L C D _ H3.out.1.2 H6.out.2).mono ?_
  rintro e w' ⟨⟨b, rfl, hdom⟩, rfl⟩
  cases b with
  | false =>
    clear hdom
    go_wp2
    go_ret
    exact ⟨rfl, Below.refl _ _⟩
  | true =>
  obtain ⟨⟨d1, d2, d3, d4⟩, ⟨d5, d6, d7⟩, ⟨d8, d9⟩, ⟨d10, d11⟩, ⟨d12, d13⟩, d14⟩ := hdom rfl
  clear hdom
  have HL : Hid (∀ i, i < nh → L i ≤ 1048576) := d4
  have HDB : Hid (∀ i, i < nd → 0 ≤ D i ∧ D i ≤ 1073741824) := d14
  have hmb := mul_bd (a := nodes) (b := (nc : Int)) d5 d6 (by omega) (by omega)
  obtain ⟨all, hall⟩ : ∃ all, all = nodes * (nc : Int) := ⟨_, rfl⟩
  have HALL : Hid (nodes * (nc : Int) = all) := hall.symm
  rw [HALL.out] at hmb d13
  have HB : Hid (Bds nodes rounds pairs bytes all nc nd D) := ⟨d8, d9, d10, d11, HALL.out, hmb.1, hmb.2, d12, d13, d3, d14⟩
  clear hall d4 d14
  go_wp2_with fail
  refine (clone_any a2 nc cc M _ (by omega) H2.out).mono ?_
  rintro e w1 ⟨c2, k2, rfl, G2, hb1⟩
  go_wp2_with fail
  refine (rows_any a3 nh ch A L C X _ (by omega) HL.out (H3.out.below hb1 (Nat.le_refl _))).mono ?_
  rintro e w2 ⟨c3, k3, rfl, G3, hb2⟩
  have b2 : Below w.heap.size w w2 := hb1.trans (hb2.mono hb1.size)
  go_wp2_with fail
  refine (clone_any a4 no co O _ (by omega) (H4.out.below b2 (Nat.le_refl _))).mono ?_
  rintro e w3 ⟨c4, k4, rfl, G4, hb3⟩
  have b3 : Below w.heap.size w w3 := b2.trans (hb3.mono b2.size)
  go_wp2_with fail
  refine (clone_any a6 nd cd D _ (by omega) (H6.out.below b3 (Nat.le_refl _))).mono ?_
  rintro e w4 ⟨c6, k6, rfl, G6, hb4⟩
  have b4 : Below w.heap.size w w4 := b3.trans (hb4.mono b3.size)
  -- the clones as they stand in w4
  have G2' : Hid (SRow w4 c2 nc k2 (fun i => .int .i64 (M i))) := ((G2.out.below hb2 (Nat.le_refl _)).below hb3 (Nat.le_refl _)).below hb4 (Nat.le_refl _)
  have G4' : Hid (SRow w4 c4 no k4 (fun i => .int .i64 (O i))) := G4.out.below hb4 (Nat.le_refl _)
  have G3' : Hid (∃ A' C', HRow w4 c3 nh k3 A' L C' X) := by
    obtain ⟨A', C', h⟩ := G3.out
    exact ⟨A', C', (h.below hb3 (Nat.le_refl _)).below hb4 (Nat.le_refl _)⟩
  clear G2 G3 G4 H2 H3 H4 H6 hb1 hb2 hb3 hb4 b2 b3
  go_wp2_with fail
  refine (clone_any c2 nc k2 M _ (by omega) G2'.out).mono ?_
  rintro e w5 ⟨f2, l2, rfl, F2, hb5⟩
  obtain ⟨A', C', h3⟩ := G3'.out
  have H3' : Hid (HRow w4 c3 nh k3 A' L C' X) := h3
  clear h3 G3'
  go_wp2_with fail
  refine (rows_any c3 nh k3 A' L C' X _ (by omega) HL.out (H3'.out.below hb5 (Nat.le_refl _))).mono ?_
  rintro e w6 ⟨f3, l3, rfl, F3, hb6⟩
  have b6 : Below w4.heap.size w4 w6 := hb5.trans (hb6.mono hb5.size)
  go_wp2_with fail
  refine (clone_any c4 no k4 O _ (by omega) (G4'.out.below b6 (Nat.le_refl _))).mono ?_
  rintro e w7 ⟨f4, l4, rfl, F4, hb7⟩
  have b7 : Below w4.heap.size w4 w7 := b6.trans (hb7.mono b6.size)
  go_wp2_with fail
  refine (clone_any c6 nd k6 D _ (by omega) (G6.out.below b7 (Nat.le_refl _))).mono ?_
  rintro e w8 ⟨f6, l6, rfl, F6, hb8⟩
  have b8 : Below w4.heap.size w4 w8 := b7.trans (hb8.mono b7.size)
  go_wp2_with fail
  refine (make_any nodes rounds pairs bytes seen all fb f2 f3 f4 f6 nc l2 nh l3 no l4 nd l6 D _ F6.out.2).mono ?_
  rintro e w9 ⟨rfl, HT, hb9⟩
  have b9 : Below w4.heap.size w4 w9 := b8.trans (hb9.mono b8.size)
  go_wp2_with fail
  refine (zz_any w8.heap.size nodes rounds pairs bytes all fb f2 f6 nc l2 nd l6 s D _ HT.out HB.out).mono ?_
  rintro e wA ⟨v, rfl, hv, hbA⟩
  have bA : Below w4.heap.size w4 wA := b9.trans (hbA.mono b9.size)
  have bF : Below w.heap.size w wA := b4.trans (bA.mono b4.size)
  have VD : Hid (VRow wA c6 nd (fun i => .int .i64 (D i))) := G6.out.2.below bA (Nat.le_refl _)
  obtain ⟨r, d, dl, hva, HF, hrest⟩ := hv
  have HF' : Hid (FOk fb (floatOfInt .f64 rounds) r) := HF
  have HRE : Hid ((all = 0 ∧ d = 0 ∧ dl = 10000) ∨ (0 < all ∧ dl = pairs * 10000 / all ∧ P99 D nd ((99 * all + 99) / 100) d)) := hrest
  obtain ⟨q, hq⟩ : ∃ q, q = (2 * bytes + rounds) / (2 * rounds) := ⟨_, rfl⟩
  obtain ⟨t, ht⟩ : ∃ t, t = 2 * q * rounds := ⟨_, rfl⟩
  obtain ⟨q1, q2, q3, q4, q5, q6⟩ := q_facts bytes rounds q t d10 d8 hq ht
  have m1 : wrap64 (nodes * (nc : Int)) = all := by rw [HALL.out]; unfold wrap64; omega
  have m2 : wrap64 (2 * q * rounds) = t := by rw [← ht]; unfold wrap64; omega
  have q7 : 0 ≤ bytes / rounds := Int.ediv_nonneg d10 (by omega)
  have q8 : bytes / rounds ≤ bytes := Int.ediv_le_self _ d10
  obtain ⟨B1, hB1⟩ : ∃ B1, B1 = bytes / rounds + 1 := ⟨_, rfl⟩
  have m3 : wrap64 (bytes / rounds + 1) = B1 := by rw [← hB1]; unfold wrap64; omega
  rw [← hB1] at q2
  obtain ⟨f, g, hqr, hfo, hgc, hgb⟩ := quo_still 24 fb (floatOfInt .f64 rounds)
  have HFO : Hid (∀ w, FOk fb (floatOfInt .f64 rounds) (f w)) := hfo
  have hr0 : ¬ rounds = 0 := by omega
  rw [← hq] at hva
  rw [hva]
  clear hfo q7 q8 hB1
  clear hva hrest HF hq ht HT HB F2 F3 F4 F6 G2' G4' G6 H3' hb5 hb6 hb7 hb8 hb9 hbA b4 b6 b7 b8 b9 bA HL
  go_wp2_with fail
  refine (same_float fb _ r _ HF'.out (HFO.out _) _).mono ?_
  rintro e w' ⟨rfl, rfl⟩
  clear hqr q1 q2 q3 q4 q5 q6 m2 m3 hr0
  rcases HRE.out with ⟨h0, hd0, hdl0⟩ | ⟨h0, hdl, hp⟩
  · have hb0 : (all == 0) = true := by rw [h0]; rfl
    clear h0 HRE
    subst hd0
    subst hdl0
    have HBF : Hid (Below w.heap.size w (g (wA.alloc (.cells #[.string s, .int .i64 nodes, .int .i64 rounds, .int .i64 (nc : Int), .int .i64 q, .float .f64 r, .int .i64 0, .int .i64 10000] 32)))) := hgb _ _ _ (bF.alloc bF.size _)
    go_wp2
    go_ret
    exact ⟨rfl, HBF.out⟩
  · have hb0 : (all == 0) = false := by rw [beq_eq_false_iff_ne]; omega
    obtain ⟨x1, x2, x3, x4, x5⟩ := dl_facts pairs all dl d12 (by omega) d13 hdl
    obtain ⟨u, hu⟩ : ∃ u, u = dl * all := ⟨_, rfl⟩
    rw [← hu] at x3 x4 x5
    have m4 : wrap64 (dl * all) = u := by rw [← hu]; unfold wrap64; omega
    have m5 : wrap64 ((dl + 1) * all) = u + all := by rw [Int.add_mul, Int.one_mul, ← hu]; unfold wrap64; omega
    clear hdl hu HRE
    rcases hp with ⟨hd, hs⟩ | ⟨k, hk, hd, hs1, hs2⟩
    · subst hd
      have HS : Hid (sumD D nd < (99 * all + 99) / 100) := hs
      clear hs
      have HBF : Hid (Below w.heap.size w (g (wA.alloc (.cells #[.string s, .int .i64 nodes, .int .i64 rounds, .int .i64 (nc : Int), .int .i64 q, .float .f64 r, .int .i64 (-1), .int .i64 dl] 32)))) := hgb _ _ _ (bF.alloc bF.size _)
      go_wp2
      clear m1 m4 m5
      go_loop [31, 32] (fun tt i => ∃ j : Nat, j ≤ nd ∧ i = .int .i64 j ∧ tt = .int .i64 (sumD D j)) (fun _ i => nd - (intOf i).toNat)
      case atStart => exact ⟨0, Nat.zero_le _, rfl, rfl⟩
      case round =>
        obtain ⟨j, hj, rfl, rfl⟩ := hrel
        have hsb := sumD_bd D nd HDB.out j hj
        by_cases hlt : j < nd
        · obtain ⟨b, off, rfl, hb, hc⟩ := VD.out.2 (by omega)
          have g1 : wA.cell? ⟨b, off + j, none⟩ = some (.int .i64 (D j)) := hc j hlt
          have hdk := HDB.out j hlt
          have HSS : Hid (sumD D (j + 1) = sumD D j + D j) := rfl
          have n1 : ¬ b = wA.heap.size := by omega
          have i1 : (j : Int) < (nd : Int) := by omega
          clear hc
          generalize sumD D j = sk at *
          go_wp2
          go_round
          case rel => exact ⟨j + 1, by omega, by go_num, by rw [HSS.out]⟩
          case measure => simp [intOf]; omega
        · have hjn : j = nd := by omega
          have h100 : 100 * sumD D j < 99 * all := by have := HS.out; rw [← hjn] at this; omega
          clear hjn HS
          generalize sumD D j = sk at *
          go_wp2
          go_ret
          exact ⟨rfl, HBF.out⟩
    · subst hd
      have HS : Hid (sumD D k < (99 * all + 99) / 100 ∧ (99 * all + 99) / 100 ≤ sumD D (k + 1)) := ⟨hs1, hs2⟩
      clear hs1 hs2
      have HBF : Hid (Below w.heap.size w (g (wA.alloc (.cells #[.string s, .int .i64 nodes, .int .i64 rounds, .int .i64 (nc : Int), .int .i64 q, .float .f64 r, .int .i64 (k : Int), .int .i64 dl] 32)))) := hgb _ _ _ (bF.alloc bF.size _)
      have hkm : ((k : Int) == -1) = false := by rw [beq_eq_false_iff_ne]; omega
      have hkn : (k : Int) < (nd : Int) := by omega
      go_wp2
      clear m1 m4 m5
      go_loop [33, 34] (fun tt i => ∃ j : Nat, j ≤ k ∧ i = .int .i64 j ∧ tt = .int .i64 (sumD D j)) (fun _ i => k - (intOf i).toNat)
      case atStart => exact ⟨0, Nat.zero_le _, rfl, rfl⟩
      case round =>
        obtain ⟨j, hj, rfl, rfl⟩ := hrel
        have hsb := sumD_bd D nd HDB.out j (by omega)
        obtain ⟨b, off, rfl, hb, hc⟩ := VD.out.2 (by omega)
        have n1 : ¬ b = wA.heap.size := by omega
        by_cases hlt : j < k
        · have g1 : wA.cell? ⟨b, off + j, none⟩ = some (.int .i64 (D j)) := hc j (by omega)
          have hdk := HDB.out j (by omega)
          have HSS : Hid (sumD D (j + 1) = sumD D j + D j) := rfl
          have i1 : (j : Int) < (nd : Int) := by omega
          clear hc
          generalize sumD D j = sk at *
          go_wp2
          go_round
          case rel => exact ⟨j + 1, by omega, by go_num, by rw [HSS.out]⟩
          case measure => simp [intOf]; omega
        · have hjn : j = k := by omega
          have g1 : wA.cell? ⟨b, off + k, none⟩ = some (.int .i64 (D k)) := hc k hk
          have hdk := HDB.out k hk
          have HSS : Hid (sumD D (k + 1) = sumD D k + D k) := rfl
          have h100 : 100 * sumD D j < 99 * all := by have := HS.out.1; rw [← hjn] at this; omega
          have h101 : 99 * all ≤ 100 * (sumD D j + D k) := by have := HS.out.2; rw [HSS.out] at this; have e : sumD D j = sumD D k := by rw [hjn]
                                                              omega
          clear hjn HS HSS hc
          generalize sumD D j = sk at *
          generalize D k = dk at *
          go_wp2
          go_ret
          exact ⟨rfl, HBF.out⟩
end fnTallyResultSpec
end Go.Proofs.Qxb6617374a
