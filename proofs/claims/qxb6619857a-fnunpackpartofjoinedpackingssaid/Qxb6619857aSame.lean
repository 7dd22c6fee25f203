import Derived.Test.Qxb6619857aMade
namespace Go.Proofs.Qxb6619857a
open Go.RowKit

/-- the first n parts behind a: ETag 'E i', Refused 'R i' -/
def PRow (w : World) (a : Option Addr) (n : Nat) (E : Nat → ByteArray) (R : Nat → Int) : Prop :=
  0 < n → ∃ g, a = some ⟨g, 0, none⟩ ∧ ∀ i, i < n → w.cell? ⟨g, i * 2, none⟩ = some (.string (E i)) ∧ w.cell? ⟨g, i * 2 + 1, none⟩ = some (.int .i64 (R i))
theorem PRow.le {w : World} {a : Option Addr} {n m : Nat} {E : Nat → ByteArray} {R : Nat → Int} (h : PRow w a n E R) (hm : m ≤ n) : PRow w a m E R := by
  intro h0
  obtain ⟨g, e, hc⟩ := h (by omega)
  exact ⟨g, e, fun i hi => hc i (by omega)⟩
theorem PRow.congr {w : World} {a : Option Addr} {n : Nat} {E E' : Nat → ByteArray} {R R' : Nat → Int} (h : PRow w a n E R) (he : ∀ i, i < n → E i = E' i ∧ R i = R' i) : PRow w a n E' R' := by
  intro h0
  obtain ⟨g, e, hc⟩ := h h0
  exact ⟨g, e, fun i hi => by rw [← (he i hi).1, ← (he i hi).2]; exact hc i hi⟩

def eOf (ps : List (ByteArray × Int)) (i : Nat) : ByteArray := (ps.getD i (ByteArray.empty, 0)).1
def rOf (ps : List (ByteArray × Int)) (i : Nat) : Int := (ps.getD i (ByteArray.empty, 0)).2
theorem own_row {w : World} {B : Nat} {v : Value} {ps : List (ByteArray × Int)} (h : Own w B v ps) : ∃ a cap, v = .slice a ps.length cap ∧ PRow w a ps.length (eOf ps) (rOf ps) := by
  rcases h.2 with ⟨rfl, hn⟩ | ⟨g, cap, cur, rfl, hg, hb, hnc, hcm, hcs, htake⟩
  · exact ⟨none, 0, by rw [hn], fun h0 => by omega⟩
  · refine ⟨some ⟨g, 0, none⟩, cap, rfl, fun _ => ⟨g, rfl, fun i hi => ?_⟩⟩
    have hc := fun j hj => World.ownsRow.cellAt h j hj
    rw [hc (i * 2) (by omega), hc (i * 2 + 1) (by omega), cells2_get, cells2_get, show i * 2 / 2 = i from by omega, show (i * 2 + 1) / 2 = i from by omega,
      show i * 2 % 2 = 0 from by omega, show (i * 2 + 1) % 2 = 1 from by omega, List.getElem?_eq_getElem hi]
    simp [eOf, rOf, List.getD, List.getElem?_eq_getElem hi]
theorem own_below {w w' : World} {B B' : Nat} {v : Value} {ps : List (ByteArray × Int)} (h : Own w B v ps) (hb : Below B' w w') (hB : w.heap.size ≤ B') : Own w' B v ps := by
  refine ⟨h.1, ?_⟩
  rcases h.2 with h2 | ⟨g, cap, cur, hv, hg, hh, r⟩
  · exact .inl h2
  · refine .inr ⟨g, cap, cur, hv, hg, ?_, r⟩
    have hlt : g < w.heap.size := (Array.getElem?_eq_some_iff.1 hh).1
    rw [hb.block g (by omega)]; exact hh

set_option maxRecDepth 20000 in
set_option maxHeartbeats 1000000 in
theorem starts_any (a a1 a2 : Option Addr) (m c n c1 c2 : Nat) (E : Nat → ByteArray) (R : Nat → Int) (w : World) (hn : n ≤ 65536) (hnm : n ≤ m) (hm : m ≤ 4194304)
    (h0 : PRow w a n E R) (h1 : VRow w a1 n (fun i => .string (E i))) (h2 : VRow w a2 n (fun i => .int .i64 (R i))) :
    Calls Try.prog 12 #[.slice a m c, .slice a1 n c1, .slice a2 n c2] w fun e w' => e = .returned (.bool true) ∧ ∃ q, w' = w.drewN q := by
  have H0 : Hid (PRow w a n E R) := h0
  have H1 : Hid (VRow w a1 n (fun i => .string (E i))) := h1
  have H2 : Hid (VRow w a2 n (fun i => .int .i64 (R i))) := h2
  clear h1 h2 h0
  go_enter Try.func12, Try.ntmps12
  go_wp2
  go_loopw [7] (fun i wr => ∃ k : Nat, k ≤ n ∧ i = .int .i64 k ∧ Hid (∃ q, wr = w.drewN q)) (fun i _ => n - (intOf i).toNat)
  case atStart => exact ⟨0, Nat.zero_le _, rfl, 0, rfl⟩
  case round =>
    obtain ⟨k, hk, rfl, HQ⟩ := hrel
    by_cases hlt : k < n
    · obtain ⟨b1, o1, rfl, hb1, hc1⟩ := H1.out.2 (by omega)
      obtain ⟨b2, o2, rfl, hb2, hc2⟩ := H2.out.2 (by omega)
      obtain ⟨g, rfl, hc0⟩ := H0.out (by omega)
      have g1 : wr.cell? ⟨b1, o1 + k, none⟩ = some (.string (E k)) := by obtain ⟨q, rfl⟩ := HQ.out; exact hc1 k hlt
      have g2 : wr.cell? ⟨b2, o2 + k, none⟩ = some (.int .i64 (R k)) := by obtain ⟨q, rfl⟩ := HQ.out; exact hc2 k hlt
      have g3 : wr.cell? ⟨g, k * 2, none⟩ = some (.string (E k)) := by obtain ⟨q, rfl⟩ := HQ.out; exact (hc0 k hlt).1
      have g4 : wr.cell? ⟨g, k * 2 + 1, none⟩ = some (.int .i64 (R k)) := by obtain ⟨q, rfl⟩ := HQ.out; exact (hc0 k hlt).2
      have i1 : (k : Int) < (n : Int) := by omega
      have i2 : (k : Int) < (m : Int) := by omega
      clear hc1 hc2 hc0
      go_wp2
      go_quiet (fail)
      go_wp2
      go_roundw
      case rel => exact ⟨k + 1, by omega, by go_num, by obtain ⟨q, rfl⟩ := HQ.out; exact ⟨q + nq, by simp⟩⟩
      case measure => simp [intOf]; omega
    · go_wp2
      go_ret
      exact ⟨rfl, HQ.out⟩

set_option maxRecDepth 20000 in
set_option maxHeartbeats 1000000 in
theorem same_any (a1 a2 : Option Addr) (n c1 c2 : Nat) (E : Nat → ByteArray) (R : Nat → Int) (w : World) (hn : n ≤ 4194304)
    (h1 : PRow w a1 n E R) (h2 : PRow w a2 n E R) :
    Calls Try.prog 11 #[.slice a1 n c1, .slice a2 n c2] w fun e w' => e = .returned (.bool true) ∧ ∃ q, w' = w.drewN q := by
  have H1 : Hid (PRow w a1 n E R) := h1
  have H2 : Hid (PRow w a2 n E R) := h2
  clear h1 h2
  go_enter Try.func11, Try.ntmps11
  go_wp2
  go_loopw [5] (fun i wr => ∃ k : Nat, k ≤ n ∧ i = .int .i64 k ∧ Hid (∃ q, wr = w.drewN q)) (fun i _ => n - (intOf i).toNat)
  case atStart => exact ⟨0, Nat.zero_le _, rfl, 0, rfl⟩
  case round =>
    obtain ⟨k, hk, rfl, HQ⟩ := hrel
    by_cases hlt : k < n
    · obtain ⟨b1, rfl, hc1⟩ := H1.out (by omega)
      obtain ⟨b2, rfl, hc2⟩ := H2.out (by omega)
      have g1 : wr.cell? ⟨b1, k * 2, none⟩ = some (.string (E k)) := by obtain ⟨q, rfl⟩ := HQ.out; exact (hc1 k hlt).1
      have g2 : wr.cell? ⟨b1, k * 2 + 1, none⟩ = some (.int .i64 (R k)) := by obtain ⟨q, rfl⟩ := HQ.out; exact (hc1 k hlt).2
      have g3 : wr.cell? ⟨b2, k * 2, none⟩ = some (.string (E k)) := by obtain ⟨q, rfl⟩ := HQ.out; exact (hc2 k hlt).1
      have g4 : wr.cell? ⟨b2, k * 2 + 1, none⟩ = some (.int .i64 (R k)) := by obtain ⟨q, rfl⟩ := HQ.out; exact (hc2 k hlt).2
      have i1 : (k : Int) < (n : Int) := by omega
      clear hc1 hc2
      go_wp2
      go_quiet (fail)
      go_wp2
      go_roundw
      case rel => exact ⟨k + 1, by omega, by go_num, by obtain ⟨q, rfl⟩ := HQ.out; exact ⟨q + nq, by simp⟩⟩
      case measure => simp [intOf]; omega
    · go_wp2
      go_ret
      exact ⟨rfl, HQ.out⟩
end Go.Proofs.Qxb6619857a
