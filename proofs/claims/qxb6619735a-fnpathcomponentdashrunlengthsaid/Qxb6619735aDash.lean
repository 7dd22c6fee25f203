import Derived.Test.Qxb6619735aComp
import Derived.Deep.OwnRows
import Derived.Laws.BytesArg
import Derived.ProofKit
namespace Go.Proofs.Qxb6619735a
open Go.RowKit

theorem Try.info5 : (Try.prog.info? 5).map (fun i => (i.zero, i.size, i.bytes)) = some (some (.int .u8 0), 1, 1) := by kernel_rfl

def dashes (k : Nat) : ByteArray := strOfNums (List.replicate k 45)
theorem dashes_list (k : Nat) : (dashes k).data.toList = List.replicate k 45 := by
  unfold dashes; rw [strOfNums_data, List.map_replicate]; rfl
theorem dashes_size (k : Nat) : (dashes k).size = k := by
  unfold dashes; rw [strOfNums_size, List.length_replicate]

theorem dash_conv (k g : Nat) (wr : World) (h : wr.rowIs g 5 k (fun _ => .int .u8 45)) :
    (convert 28 9 (.slice (some ⟨g, 0, none⟩) k k)).run Try.prog wr = .ok (.string (dashes k)) wr := by
  refine run_convert_bytes_arg (P := Try.prog) wr 28 5 Try.underlying28 Try.underlying5 g 0 k k (List.replicate k 45) (List.length_replicate ..) (fun i hi => ?_) 9 Try.underlying9
  rw [Nat.zero_add, h.cell hi]
  simp [hi]

set_option maxHeartbeats 400000 in
theorem dashes_any (k : Nat) (w : World) (h1 : 1 ≤ k) (h2 : k ≤ 4096) :
    Calls Try.prog 12 #[.int .i64 k] w fun e w' => e = .returned (.string (dashes k)) ∧ Grown w w' := by
  have hmk := run_make_row' (P := Try.prog) 28 5 (.int .u8 0) 1 Try.underlying28 Try.info5 rfl .i64 .i64 k (by omega) (by omega)
  go_enter Try.func12, Try.ntmps12
  go_wp2
  go_loopw [4] (fun i wr => ∃ n : Nat, n ≤ k ∧ i = .int .i64 n ∧ wr.rowIs w.heap.size 5 k (fun j => if j < n then .int .u8 45 else .int .u8 0) ∧ Grown w wr) (fun i _ => k - (intOf i).toNat)
  case atStart => exact ⟨0, Nat.zero_le _, rfl, (World.rowIs_made w (.int .u8 0) k 5).congr (fun i _ => by simp), (Grown.refl _).alloc _ _⟩
  case round =>
    obtain ⟨n, hn, rfl, hrow, hg⟩ := hrel
    clear hmk
    by_cases hlt : n < k
    · have hc := hrow.cell hlt
      rw [if_neg (by omega)] at hc
      have hf := hrow.frozen n
      have HN : Hid ((wr.setCell ⟨w.heap.size, n, none⟩ (.int .u8 45)).rowIs w.heap.size 5 k (fun j => if j < n + 1 then .int .u8 45 else .int .u8 0)) := (hrow.set n (.int .u8 45)).congr (fun j _ => by
        by_cases e : j = n
        · subst e; simp
        · by_cases e2 : j < n
          · simp [e, e2, Nat.lt_succ_of_lt e2]
          · rw [if_neg e, if_neg e2, if_neg (by omega)])
      clear hrow
      go_wp2
      go_roundw
      case rel => exact ⟨n + 1, by omega, by go_num, HN.out, hg.setCell (Nat.le_refl _) _⟩
      case measure => simp [intOf]; omega
    · have hcv := dash_conv k w.heap.size wr (hrow.congr (fun j hj => by rw [if_pos (by omega)]))
      go_wp2
      go_ret
      exact ⟨rfl, hg⟩
end Go.Proofs.Qxb6619735a
