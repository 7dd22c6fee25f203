import Derived.Test.Qxb6617374aFloat
import Derived.Deep.RegionHeld
import Derived.BigRegion
namespace Go.Proofs.Qxb6617374a
open Go.RowKit

/-- the tally's cells that 'result' reads -/
def Tally (w : World) (tb : Nat) (nodes rounds pairs bytes : Int) (fb : Nat) (ac ad : Option Addr) (nc cc nd cd : Nat) : Prop :=
  w.cell? ⟨tb, 0, none⟩ = some (.int .i64 nodes) ∧ w.cell? ⟨tb, 1, none⟩ = some (.int .i64 rounds) ∧ w.cell? ⟨tb, 2, none⟩ = some (.slice ac nc cc) ∧ w.cell? ⟨tb, 5, none⟩ = some (.int .i64 pairs) ∧
  w.cell? ⟨tb, 6, none⟩ = some (.slice ad nd cd) ∧ w.cell? ⟨tb, 7, none⟩ = some (.int .i64 bytes) ∧ w.cell? ⟨tb, 8, none⟩ = some (.float .f64 fb)

theorem quo_int {P : Program} (a b : Int) (ha : 0 ≤ a) (ha2 : a ≤ 9223372036854775807) (hb : 1 ≤ b) (w : World) : (Op.intDiv .quo .i64 a b).run P w = .ok (.int .i64 (a / b)) w := by
  have hb0 : ¬ b = 0 := by omega
  unfold Op.intDiv
  rw [if_neg hb0]
  simp only [IntWalk.i64_quo a b ⟨ha, ha2, hb⟩]
  rfl
theorem run_store_float {P : Program} {w : World} {a : Addr} {m : Mode} (k : FloatKind) (b : Nat) : (store a (.float k b) m).run P w = stored P w a (.float k b) m := run_store P w a _ m rfl
theorem set_set (w : World) (b o : Nat) (v v' : Value) : (w.setCell ⟨b, o, none⟩ v).setCell ⟨b, o, none⟩ v' = w.setCell ⟨b, o, none⟩ v' := by
  unfold World.setCell
  congr 1
  apply Array.ext_getElem?
  intro i
  simp only [Array.getElem?_modify]
  by_cases h : b = i
  · simp only [h, if_true, Option.map_map]
    cases w.heap[i]? with
    | none => rfl
    | some x => cases x <;> simp
  · simp only [h, if_false]
attribute [local go_sem] run_store_float set_set

/-- the sum of the first k delays -/
def sumD (D : Nat → Int) : Nat → Int
  | 0 => 0
  | k + 1 => sumD D k + D k
theorem sumD_bd (D : Nat → Int) (n : Nat) (h : ∀ i, i < n → 0 ≤ D i ∧ D i ≤ 1073741824) (k : Nat) (hk : k ≤ n) : 0 ≤ sumD D k ∧ sumD D k ≤ 1073741824 * (k : Int) := by
  induction k with
  | zero => exact ⟨Int.le_refl _, by simp [sumD]⟩
  | succ k ih =>
    have h1 := ih (by omega)
    have h2 := h k (by omega)
    simp only [sumD]
    omega
/-- the least delay whose sum reaches the rank, or -1 -/
def P99 (D : Nat → Int) (nd : Nat) (rank d : Int) : Prop :=
  (d = -1 ∧ sumD D nd < rank) ∨ ∃ k : Nat, k < nd ∧ d = (k : Int) ∧ sumD D k < rank ∧ rank ≤ sumD D (k + 1)
/-- what 'result' answers -/
def ROk (v : Value) (s : ByteArray) (nodes rounds pairs bytes all : Int) (nc nd fb : Nat) (D : Nat → Int) : Prop :=
  ∃ (r : Nat) (d dl : Int), v = .agg #[.string s, .int .i64 nodes, .int .i64 rounds, .int .i64 (nc : Int), .int .i64 ((2 * bytes + rounds) / (2 * rounds)), .float .f64 r, .int .i64 d, .int .i64 dl] ∧
    FOk fb (floatOfInt .f64 rounds) r ∧ ((all = 0 ∧ d = 0 ∧ dl = 10000) ∨ (0 < all ∧ dl = pairs * 10000 / all ∧ P99 D nd ((99 * all + 99) / 100) d))

theorem below8 {B : Nat} {a w : World} {g : Nat} (h : Below B a w) (hg : B ≤ g) (v0 v1 v2 v3 v4 v5 v6 v7 : Value) :
    Below B a ((((((((w.setCell ⟨g, 0, none⟩ v0).setCell ⟨g, 1, none⟩ v1).setCell ⟨g, 2, none⟩ v2).setCell ⟨g, 3, none⟩ v3).setCell ⟨g, 4, none⟩ v4).setCell ⟨g, 5, none⟩ v5).setCell ⟨g, 6, none⟩ v6).setCell ⟨g, 7, none⟩ v7) :=
  (((((((h.setCell hg v0).setCell hg v1).setCell hg v2).setCell hg v3).setCell hg v4).setCell hg v5).setCell hg v6).setCell hg v7
theorem below2 (w : World) (o1 o2 : Obj) : Below w.heap.size w ((w.alloc o1).alloc o2) := ((Below.refl _ _).alloc (Nat.le_refl _) _).alloc (by simp) _

set_option maxRecDepth 20000 in
set_option maxHeartbeats 2000000 in
theorem result_some (tb : Nat) (nodes rounds pairs bytes all : Int) (fb : Nat) (ac ad : Option Addr) (nc cc nd cd : Nat) (s : ByteArray) (D : Nat → Int) (w : World) (r : Nat)
    (hq : ∀ w, (binOp .quo 24 (.float .f64 fb) (.float .f64 (floatOfInt .f64 rounds))).run Try.prog w = .ok (.float .f64 r) w) (hf : FOk fb (floatOfInt .f64 rounds) r)
    (ht : tb < w.heap.size) (hT : Tally w tb nodes rounds pairs bytes fb ac ad nc cc nd cd) (hD : VRow w ad nd (fun i => .int .i64 (D i)))
    (b1 : 1 ≤ rounds) (b2 : rounds ≤ 1073741824) (b3 : 0 ≤ bytes) (b4 : bytes ≤ 1152921504606846976) (hall : nodes * (nc : Int) = all) (b5 : 0 ≤ all) (b6 : all ≤ 16777216) (b7 : 0 ≤ pairs) (b8 : pairs ≤ all) (b9 : nd ≤ 131072)
    (hdb : ∀ i, i < nd → 0 ≤ D i ∧ D i ≤ 1073741824) :
    Calls Try.prog 12 #[.pointer (some ⟨tb, 0, none⟩), .string s] w fun e w' => ∃ v, e = .returned v ∧ ROk v s nodes rounds pairs bytes all nc nd fb D ∧ Below w.heap.size w w' := by
  obtain ⟨t0, t1, t2, t5, t6, t7, t8⟩ := hT
  have e1 : IntKind.i64.wrap (2 * bytes) = 2 * bytes := by rw [IntKind.wrap_i64]; omega
  obtain ⟨p2, hp2⟩ : ∃ p2, p2 = 2 * bytes + rounds := ⟨_, rfl⟩
  obtain ⟨r2, hr2⟩ : ∃ r2, r2 = 2 * rounds := ⟨_, rfl⟩
  have e2 : IntKind.i64.wrap (2 * bytes + rounds) = p2 := by rw [IntKind.wrap_i64]; omega
  have e3 : IntKind.i64.wrap (2 * rounds) = r2 := by rw [IntKind.wrap_i64]; omega
  have hz : ¬ r2 = 0 := by omega
  obtain ⟨q, hqq⟩ : ∃ q, q = p2 / r2 := ⟨_, rfl⟩
  have e4 : IntKind.i64.wrap (p2.tdiv r2) = q := by rw [IntWalk.i64_quo p2 r2 ⟨by omega, by omega, by omega⟩, hqq]
  have HQ2 : Hid (q = (2 * bytes + rounds) / (2 * rounds)) := by show q = _; rw [hqq, hp2, hr2]
  have HF : Hid (FOk fb (floatOfInt .f64 rounds) r) := hf
  have HV : Hid (VRow w ad nd (fun i => .int .i64 (D i))) := hD
  have HDB : Hid (∀ i, i < nd → 0 ≤ D i ∧ D i ≤ 1073741824) := hdb
  have m1 : wrap64 (nodes * (nc : Int)) = all := by rw [hall]; unfold wrap64; omega
  have m2 : IntKind.i64.wrap (nodes * (nc : Int)) = all := by rw [hall, IntKind.wrap_i64]; omega
  clear hp2 hr2 hqq hf hD hdb hall
  go_enter Try.func12, Try.ntmps12
  go_wp2
  go_region_held (fun w' => w'.cell? ⟨tb, 0, none⟩ = some (.int .i64 nodes) ∧ w'.cell? ⟨tb, 1, none⟩ = some (.int .i64 rounds) ∧ w'.cell? ⟨tb, 2, none⟩ = some (.slice ac nc cc) ∧ w'.cell? ⟨tb, 7, none⟩ = some (.int .i64 bytes) ∧ w'.cell? ⟨tb, 8, none⟩ = some (.float .f64 fb)) (go_keep) (fail)
  clear e1 e2 e3 e4 hz hq
  go_wp2
  go_quiet (fail)
  by_cases h0 : all = 0
  · have hb0 : (all == 0) = true := by rw [h0]; rfl
    have H0 : Hid (all = 0) := h0
    clear h0
    go_wp2
    refine bodyPost_ret (v := .agg #[.string s, .int .i64 nodes, .int .i64 rounds, .int .i64 (nc : Int), .int .i64 q, .float .f64 r, .int .i64 0, .int .i64 10000]) (by simp [results, Try.results12, go_sem]) rfl ⟨_, rfl, ⟨r, 0, 10000, by rw [HQ2.out], HF.out, .inl ⟨H0.out, rfl, rfl⟩⟩, ?_⟩
    refine below8 ?_ (Nat.le_refl _) _ _ _ _ _ _ _ _
    refine below_drewN ?_ _
    exact below2 _ _ _
  · have hb0 : (all == 0) = false := by rw [beq_eq_false_iff_ne]; exact h0
    have hap : 0 < all := by omega
    obtain ⟨rk, hrk⟩ : ∃ rk, rk = (99 * all + 99) / 100 := ⟨_, rfl⟩
    have hrk1 : 1 ≤ rk := by omega
    have hrk2 : rk ≤ 16777216 := by omega
    have HRK : Hid (rk = (99 * all + 99) / 100) := hrk
    clear hrk
    go_wp2
    clear m1 m2
    go_loop [7, 82] (fun rr i => ∃ k : Nat, k ≤ nd ∧ i = .int .i64 k ∧ rr = .int .i64 (rk - sumD D k) ∧ sumD D k < rk) (fun _ i => nd - (intOf i).toNat)
    case atStart => exact ⟨0, Nat.zero_le _, rfl, by rw [← HRK.out]; simp [sumD], by simp only [sumD]; omega⟩
    case round =>
      obtain ⟨k, hk, rfl, rfl, hsk⟩ := hrel
      have hsb := sumD_bd D nd HDB.out k hk
      by_cases hlt : k < nd
      · obtain ⟨b, off, rfl, hb, hc⟩ := HV.out.2 (by omega)
        have g1 : w.cell? ⟨b, off + k, none⟩ = some (.int .i64 (D k)) := hc k hlt
        have hdk := HDB.out k hlt
        have HS : Hid (sumD D (k + 1) = sumD D k + D k) := rfl
        have n1 : ¬ b = w.heap.size := by omega
        have n2 : ¬ b = w.heap.size + 1 := by omega
        have i1 : (k : Int) < (nd : Int) := by omega
        clear hc
        generalize hskk : sumD D k = sk at *
        have HSK : Hid (sumD D k = sk) := hskk
        clear hskk
        by_cases hst : rk - sk ≤ D k
        · have HP : Hid (P99 D nd rk (k : Int)) := .inr ⟨k, hlt, rfl, by rw [HSK.out]; exact hsk, by rw [HS.out]; omega⟩
          go_wp2
          refine bodyPost_ret (v := .agg #[.string s, .int .i64 nodes, .int .i64 rounds, .int .i64 (nc : Int), .int .i64 q, .float .f64 r, .int .i64 (k : Int), .int .i64 (pairs * 10000 / all)]) (by simp [results, Try.results12, go_sem]) rfl ⟨_, rfl, ⟨r, k, _, by rw [HQ2.out], HF.out, .inr ⟨hap, rfl, by rw [← HRK.out]; exact HP.out⟩⟩, ?_⟩
          refine below8 ?_ (Nat.le_refl _) _ _ _ _ _ _ _ _
          refine Below.setCell (Below.setCell ?_ (by simp) _) (by simp) _
          refine below_drewN ?_ _
          exact below2 _ _ _
        · go_wp2
          go_round
          case rel => exact ⟨k + 1, by omega, by go_num, by rw [HS.out]; go_num, by rw [HS.out]; omega⟩
          case measure => simp [intOf]; omega
      · have hkn : k = nd := by omega
        have HP : Hid (P99 D nd rk (-1)) := .inl ⟨rfl, by rw [← hkn]; exact hsk⟩
        clear hkn
        go_wp2
        refine bodyPost_ret (v := .agg #[.string s, .int .i64 nodes, .int .i64 rounds, .int .i64 (nc : Int), .int .i64 q, .float .f64 r, .int .i64 (-1), .int .i64 (pairs * 10000 / all)]) (by simp [results, Try.results12, go_sem]) rfl ⟨_, rfl, ⟨r, -1, _, by rw [HQ2.out], HF.out, .inr ⟨hap, rfl, by rw [← HRK.out]; exact HP.out⟩⟩, ?_⟩
        refine below8 ?_ (Nat.le_refl _) _ _ _ _ _ _ _ _
        refine Below.setCell (Below.setCell ?_ (by simp) _) (by simp) _
        refine below_drewN ?_ _
        exact below2 _ _ _
end Go.Proofs.Qxb6617374a
