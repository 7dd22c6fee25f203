import Derived.Test.Qxb6619857aUnpack
import Derived.Deep.OwnRows
import Derived.RegionTactic
import Derived.ChangeAlike
namespace Go.Proofs.Qxb6619857a
open Go.RowKit

/-- what the walk is told of a slice of one-cell elements that came in -/
def VRow (w : World) (a : Option Addr) (len : Nat) (V : Nat → Value) : Prop :=
  len ≤ maxLen ∧ (0 < len → ∃ b off, a = some ⟨b, off, none⟩ ∧ b < w.heap.size ∧ ∀ i, i < len → w.cell? ⟨b, off + i, none⟩ = some (V i))

theorem cells2_get (ps : List (ByteArray × Int)) (j : Nat) : (cells2 ps)[j]? = (ps[j / 2]?).map (fun x => if j % 2 = 0 then .string x.1 else .int .i64 x.2) := by
  induction ps generalizing j with
  | nil => simp [cells2]
  | cons x t ih =>
    show (Value.string x.1 :: Value.int .i64 x.2 :: cells2 t)[j]? = _
    match j with
    | 0 => rfl
    | 1 => rfl
    | j + 2 =>
      rw [List.getElem?_cons_succ, List.getElem?_cons_succ, ih, show (j + 2) / 2 = j / 2 + 1 from by omega, show (j + 2) % 2 = j % 2 from by omega, List.getElem?_cons_succ]

def mades (E : Nat → ByteArray) (R : Nat → Int) (n : Nat) : List (ByteArray × Int) := (List.range n).map fun i => (E i, R i)
theorem mades_len (E : Nat → ByteArray) (R : Nat → Int) (n : Nat) : (mades E R n).length = n := by simp [mades]
/-- a row of parts, filled up to k -/
def fillTo (E : Nat → ByteArray) (R : Nat → Int) (k j : Nat) : Value :=
  if j / 2 < k then (if j % 2 = 0 then .string (E (j / 2)) else .int .i64 (R (j / 2))) else (if j % 2 = 0 then .string ByteArray.empty else .int .i64 0)

theorem own_of_row {w : World} {g n : Nat} {E : Nat → ByteArray} {R : Nat → Int} (hn : n ≤ maxLen) (h : w.rowIs g 35 (n * 2) (fillTo E R n)) :
    Own w g (.slice (some ⟨g, 0, none⟩) n n) (mades E R n) := by
  obtain ⟨c, hb, hc, hx⟩ := h
  unfold Own
  rw [mades_len]
  refine ⟨by rw [cells2_len, mades_len], .inr ⟨g, n, c, rfl, Nat.le_refl _, hb, Nat.le_refl _, hn, hc, ?_⟩⟩
  rw [List.take_of_length_le (by rw [Array.length_toList, hc]; exact Nat.le_refl _)]
  apply List.ext_getElem?
  intro j
  rw [Array.getElem?_toList, cells2_get]
  by_cases hj : j < n * 2
  · rw [hx j hj]
    have h2 : j / 2 < n := by omega
    simp [mades, fillTo, h2]
  · rw [Array.getElem?_eq_none (by omega)]
    rw [List.getElem?_eq_none (by rw [mades_len]; omega)]; rfl
theorem row_made (w : World) (E : Nat → ByteArray) (R : Nat → Int) (n : Nat) :
    (w.alloc (.cells (madeCells (Value.agg #[.string ByteArray.empty, .int .i64 0]).cells (n * 2)) 35)).rowIs w.heap.size 35 (n * 2) (fillTo E R 0) := by
  refine ⟨_, Deep.blk_alloc_new _ _, size_madeCells _ _, fun i hi => ?_⟩
  simp only [madeCells, Array.getElem?_map, Array.getElem?_range, hi, if_true, Option.map_some]
  have : i % (Value.agg #[.string ByteArray.empty, .int .i64 0]).cells.size = i % 2 := rfl
  rw [this]
  unfold fillTo
  rw [if_neg (by omega)]
  by_cases h : i % 2 = 0
  · rw [if_pos h, h]; rfl
  · rw [if_neg h, show i % 2 = 1 from by omega]; rfl
theorem row_store {wr : World} {g n k : Nat} {E : Nat → ByteArray} {R : Nat → Int} (h : wr.rowIs g 35 (n * 2) (fillTo E R k)) :
    ((wr.setCell ⟨g, k * 2, none⟩ (.string (E k))).setCell ⟨g, k * 2 + 1, none⟩ (.int .i64 (R k))).rowIs g 35 (n * 2) (fillTo E R (k + 1)) := by
  refine ((h.set (k * 2) (.string (E k))).set (k * 2 + 1) (.int .i64 (R k))).congr (fun j _ => ?_)
  unfold fillTo
  by_cases e1 : j = k * 2 + 1
  · subst e1
    rw [if_pos rfl, if_pos (by omega), if_neg (by omega), show (k * 2 + 1) / 2 = k from by omega]
  · rw [if_neg e1]
    by_cases e2 : j = k * 2
    · subst e2
      rw [if_pos rfl, if_pos (by omega), if_pos (by omega), show k * 2 / 2 = k from by omega]
    · rw [if_neg e2]
      by_cases e3 : j / 2 < k
      · rw [if_pos e3, if_pos (show j / 2 < k + 1 from by omega)]
      · rw [if_neg e3, if_neg (show ¬ j / 2 < k + 1 from by omega)]

set_option maxRecDepth 20000 in
set_option maxHeartbeats 1000000 in
theorem made_any (a1 a2 : Option Addr) (n c1 c2 : Nat) (E : Nat → ByteArray) (R : Nat → Int) (w : World) (hn : n ≤ 65536)
    (h1 : VRow w a1 n (fun i => .string (E i))) (h2 : VRow w a2 n (fun i => .int .i64 (R i))) :
    Calls Try.prog 10 #[.slice a1 n c1, .slice a2 n c2] w fun e w' => ∃ v, e = .returned v ∧ Own w' w.heap.size v (mades E R n) ∧ Below w.heap.size w w' := by
  obtain ⟨i0, hi, hz0, hz1, hz2⟩ := info_parts Try.info35
  have hmk := fun wx => run_make (P := Try.prog) wx 28 35 i0 _ Try.underlying28 hi hz0 .i64 .i64 (n : Int) (n : Int) (by omega) (Int.le_refl _) (by rw [hz2]; omega) (by omega)
  simp only [Int.toNat_natCast, hz1] at hmk
  have H1 : Hid (VRow w a1 n (fun i => .string (E i))) := h1
  have H2 : Hid (VRow w a2 n (fun i => .int .i64 (R i))) := h2
  clear h1 h2 hi hz0 hz1 hz2
  go_enter Try.func10, Try.ntmps10
  go_wp2
  go_loopw [6] (fun i wr => ∃ k : Nat, k ≤ n ∧ i = .int .i64 k ∧ Hid (wr.rowIs w.heap.size 35 (n * 2) (fillTo E R k)) ∧ Below w.heap.size w wr) (fun i _ => n - (intOf i).toNat)
  case atStart => exact ⟨0, Nat.zero_le _, rfl, row_made w E R n, (Below.refl _ _).alloc (Nat.le_refl _) _⟩
  case round =>
    obtain ⟨k, hk, rfl, HR, hbel⟩ := hrel
    clear hmk
    by_cases hlt : k < n
    · obtain ⟨b1, o1, rfl, hb1, hc1⟩ := H1.out.2 (by omega)
      obtain ⟨b2, o2, rfl, hb2, hc2⟩ := H2.out.2 (by omega)
      have g1 : wr.cell? ⟨b1, o1 + k, none⟩ = some (.string (E k)) := by rw [hbel.cell (by exact hb1)]; exact hc1 k hlt
      have g2 : wr.cell? ⟨b2, o2 + k, none⟩ = some (.int .i64 (R k)) := by rw [hbel.cell (by exact hb2)]; exact hc2 k hlt
      have g3 := HR.out.cell (i := k * 2) (by omega)
      have g4 := HR.out.cell (i := k * 2 + 1) (by omega)
      have f3 := HR.out.frozen (k * 2)
      have f4 := HR.out.frozen (k * 2 + 1)
      rw [show fillTo E R k (k * 2) = .string ByteArray.empty from by unfold fillTo; rw [if_neg (by omega), if_pos (by omega)]] at g3
      rw [show fillTo E R k (k * 2 + 1) = .int .i64 0 from by unfold fillTo; rw [if_neg (by omega), if_neg (by omega)]] at g4
      have i1 : (k : Int) < (n : Int) := by omega
      clear hc1 hc2
      go_wp2
      go_region
      go_wp2
      go_roundw
      case rel => exact ⟨k + 1, by omega, by go_num, row_store HR.out, ((hbel.setCell (Nat.le_refl _) _).setCell (Nat.le_refl _) _).drew⟩
      case measure => simp [intOf]; omega
    · have hkn : k = n := by omega
      have HE : Hid (Own wr w.heap.size (.slice (some ⟨w.heap.size, 0, none⟩) n n) (mades E R n)) := own_of_row (by unfold maxLen; omega) (by have := HR.out; rw [hkn] at this; exact this)
      clear hkn
      go_wp2
      go_ret
      exact ⟨_, rfl, HE.out, hbel⟩
end Go.Proofs.Qxb6619857a
