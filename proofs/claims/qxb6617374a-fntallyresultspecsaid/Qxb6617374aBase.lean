import Derived.Test.Qxb6617374aProg
import Derived.WalkKit
import Derived.WalkSpells
import Derived.WalkLawsBesides
import Derived.ProofKit
import Derived.OpenShut
import Derived.Deep.OwnRows
import Derived.Deep.QuietTactic
import Derived.BigQuiet
import Derived.WalkSmall
import Derived.Below
namespace Go.Proofs.Qxb6617374a
open Go.RowKit

theorem Try.info3 : (Try.prog.info? 3).map (fun i => (i.zero, i.size, i.bytes)) = some (some (.int .i64 0), 1, 8) := by kernel_rfl
theorem Try.info35 : (Try.prog.info? 35).map (fun i => (i.zero, i.size, i.bytes)) = some (some (.slice none 0 0), 1, 24) := by kernel_rfl
theorem Try.info37 : (Try.prog.info? 37).map (fun i => (i.zero, i.size, i.bytes)) = some (some (.int .u64 0), 1, 8) := by kernel_rfl

theorem ret_eq {a b : Value} (h : a = b) : Ending.returned a = .returned b := by rw [h]
theorem cell_lt {w : World} {a : Addr} {v : Value} (h : w.cell? a = some v) : a.block < w.heap.size := by
  refine Nat.lt_of_not_le fun hle => ?_
  simp [World.cell?, Array.getElem?_eq_none hle] at h

/-- what the walk is told of a slice of one-cell elements -/
def VRow (w : World) (a : Option Addr) (len : Nat) (V : Nat → Value) : Prop :=
  len ≤ maxLen ∧ (0 < len → ∃ b off, a = some ⟨b, off, none⟩ ∧ b < w.heap.size ∧ ∀ i, i < len → w.cell? ⟨b, off + i, none⟩ = some (V i))
theorem VRow.below {W w' : World} {B : Nat} {a : Option Addr} {n : Nat} {V : Nat → Value} (h : VRow W a n V) (hb : Below B W w') (hB : W.heap.size ≤ B) : VRow w' a n V := by
  refine ⟨h.1, fun h0 => ?_⟩
  obtain ⟨b, off, e, hlt, hc⟩ := h.2 h0
  exact ⟨b, off, e, by have := hb.size; omega, fun i hi => by rw [hb.cell (by show b < B; omega)]; exact hc i hi⟩
theorem VRow.drewN {w : World} {a : Option Addr} {n : Nat} {V : Nat → Value} (h : VRow w a n V) (q : Nat) : VRow (w.drewN q) a n V := h
/-- nil, or a row -/
def SRow (w : World) (a : Option Addr) (n c : Nat) (V : Nat → Value) : Prop := ((a = none ∧ n = 0 ∧ c = 0) ∨ ∃ ad, a = some ad) ∧ VRow w a n V
theorem SRow.below {W w' : World} {B : Nat} {a : Option Addr} {n c : Nat} {V : Nat → Value} (h : SRow W a n c V) (hb : Below B W w') (hB : W.heap.size ≤ B) : SRow w' a n c V := ⟨h.1, h.2.below hb hB⟩

theorem row_vrow {w : World} {g t n : Nat} {f : Nat → Value} (hn : n ≤ maxLen) (h : w.rowIs g t n f) : VRow w (some ⟨g, 0, none⟩) n f :=
  ⟨hn, fun _ => ⟨g, 0, rfl, h.lt, fun i hi => by rw [Nat.zero_add]; exact h.cell hi⟩⟩

/-! ### zzCloneInts -/
set_option maxHeartbeats 400000 in
theorem clone_nil (w : World) : Calls Try.prog 6 #[.slice none 0 0] w fun e w' => e = .returned (.slice none 0 0) ∧ w' = w := by
  have hnil := fun wx => Lib.run_eql_slice_nil (P := Try.prog) wx 22 3 none 0 0 0 0 Try.underlying22
  go_enter Try.func6, Try.ntmps6
  go_wp2
  go_ret
  exact ⟨rfl, rfl⟩

set_option maxRecDepth 20000 in
set_option maxHeartbeats 1000000 in
theorem clone_row (ad : Addr) (n c : Nat) (D : Nat → Int) (w : World) (hn : n ≤ 1048576) (h : VRow w (some ad) n (fun i => .int .i64 (D i))) :
    Calls Try.prog 6 #[.slice (some ad) n c] w fun e w' => e = .returned (.slice (some ⟨w.heap.size, 0, none⟩) n n) ∧ VRow w' (some ⟨w.heap.size, 0, none⟩) n (fun i => .int .i64 (D i)) ∧ Below w.heap.size w w' := by
  have hnil := fun wx => Lib.run_eql_slice_nil (P := Try.prog) wx 22 3 (some ad) n c 0 0 Try.underlying22
  have hmk := run_make_row' (P := Try.prog) 22 3 (.int .i64 0) 8 Try.underlying22 Try.info3 rfl .i64 .i64 n (by omega) (by omega)
  have H : Hid (VRow w (some ad) n (fun i => .int .i64 (D i))) := h
  clear h
  go_enter Try.func6, Try.ntmps6
  go_wp2
  go_loopw [4] (fun i wr => ∃ k : Nat, k ≤ n ∧ i = .int .i64 k ∧ Hid (wr.rowIs w.heap.size 3 n (fun j => if j < k then .int .i64 (D j) else .int .i64 0)) ∧ Below w.heap.size w wr) (fun i _ => n - (intOf i).toNat)
  case atStart => exact ⟨0, Nat.zero_le _, rfl, (World.rowIs_made w (.int .i64 0) n 3).congr (fun i _ => by simp), (Below.refl _ _).alloc (Nat.le_refl _) _⟩
  case round =>
    obtain ⟨k, hk, rfl, HR, hbel⟩ := hrel
    clear hmk hnil
    by_cases hlt : k < n
    · obtain ⟨b, off, e, hb, hc⟩ := H.out.2 (by omega)
      simp only [Option.some.injEq] at e
      subst e
      have g1 : wr.cell? ⟨b, off + k, none⟩ = some (.int .i64 (D k)) := by rw [hbel.cell (by exact hb)]; exact hc k hlt
      have g2 := HR.out.cell hlt
      rw [if_neg (by omega)] at g2
      have f2 := HR.out.frozen k
      have i1 : (k : Int) < (n : Int) := by omega
      have HN : Hid ((wr.setCell ⟨w.heap.size, k, none⟩ (.int .i64 (D k))).rowIs w.heap.size 3 n (fun j => if j < k + 1 then .int .i64 (D j) else .int .i64 0)) := (HR.out.set k (.int .i64 (D k))).congr (fun j _ => by
        by_cases e : j = k
        · subst e; simp
        · by_cases e2 : j < k
          · simp [e, e2, Nat.lt_succ_of_lt e2]
          · rw [if_neg e, if_neg e2, if_neg (by omega)])
      clear hc HR
      go_wp2
      go_roundw
      case rel => exact ⟨k + 1, by omega, by go_num, HN, hbel.setCell (Nat.le_refl _) _⟩
      case measure => simp [intOf]; omega
    · have HV : Hid (VRow wr (some ⟨w.heap.size, 0, none⟩) n (fun i => .int .i64 (D i))) := row_vrow (by unfold maxLen; omega) (HR.out.congr (fun j hj => by rw [if_pos (by omega)]))
      go_wp2
      go_ret
      exact ⟨rfl, HV.out, hbel⟩

theorem clone_any (a : Option Addr) (n c : Nat) (D : Nat → Int) (w : World) (hn : n ≤ 1048576) (h : SRow w a n c (fun i => .int .i64 (D i))) :
    Calls Try.prog 6 #[.slice a n c] w fun e w' => ∃ a' c', e = .returned (.slice a' n c') ∧ Hid (SRow w' a' n c' (fun i => .int .i64 (D i))) ∧ Below w.heap.size w w' := by
  rcases h.1 with ⟨rfl, rfl, rfl⟩ | ⟨ad, rfl⟩
  · refine (clone_nil w).mono ?_
    rintro e w' ⟨rfl, rfl⟩
    exact ⟨none, 0, rfl, h, Below.refl _ _⟩
  · refine (clone_row ad n c D w hn h.2).mono ?_
    rintro e w' ⟨rfl, hv, hb⟩
    exact ⟨_, _, rfl, ⟨.inr ⟨_, rfl⟩, hv⟩, hb⟩
end Go.Proofs.Qxb6617374a
