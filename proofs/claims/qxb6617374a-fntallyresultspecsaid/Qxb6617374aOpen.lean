import Derived.Test.Qxb6617374aLaw
import Derived.ProofKit
import Derived.OpenShut
import Derived.ShutString
import Derived.ChangeOld
import Derived.Below
import Derived.Deep.Slices
namespace Go.Proofs.Qxb6617374a
open Go.ChangeShapes Go.WideShapes Go.ChangeAt Go.RowKit

theorem own : ownKnob Try.prog.godebug = none := by kernel_rfl
theorem laidOut : laidOutB Try.prog = true := by kernel_rfl
theorem cells3 : Try.prog.cellsOf 3 = 1 := by kernel_rfl
theorem cells35 : Try.prog.cellsOf 35 = 1 := by kernel_rfl
theorem cells37 : Try.prog.cellsOf 37 = 1 := by kernel_rfl

/-- from the cells of a row that was read to what the walk is told -/
theorem vrow_of {W : World} {ad : Addr} {len m : Nat} {V U : Nat → Value} (hl : len ≤ m) (hm : m ≤ maxLen) (hx : ∀ i, i < m → W.cell? (ad.add i) = some (V i)) (hU : ∀ i, i < m → V i = U i) : VRow W (some ad) len U := by
  refine ⟨by omega, fun hp => ?_⟩
  obtain ⟨b, off, spot⟩ := ad
  have hspot : spot = none := by simpa [Addr.add] using World.cell?_spot (hx 0 (by omega))
  subst hspot
  have hlt := cell_lt (hx 0 (by omega))
  rw [add_plain] at hlt
  refine ⟨b, off, rfl, hlt, fun i hi => ?_⟩
  have := hx i (by omega)
  rw [add_plain, hU i (by omega)] at this
  exact this
theorem srow_nil (W : World) (V : Nat → Value) : SRow W none 0 0 V := ⟨.inl ⟨rfl, rfl, rfl⟩, Nat.zero_le _, fun h => absurd h (by omega)⟩

/-- A slice of one-cell integers that reads as data: what the walk is told of it. -/
theorem open_nums {H : Type} {enc : TypeId × Value → H} {W : World} {t e : TypeId} {k : IntKind} (ht : Try.prog.underlying t = some (.slice e)) (he : Try.prog.underlying e = some (.int k)) (hc1 : Try.prog.cellsOf e = 1)
    {a : Option Addr} {len cap fuel : Nat} {x : DataW H × List MemPlace}
    (hf : DataW.trod enc Try.prog W 0 (fun _ => true) true fuel t [.slice a len cap] = some x) : ∃ R : Nat → Int, SRow W a len cap (fun i => .int k (R i)) := by
  rcases Deep.open_slice1 ht hc1 hf with ⟨hcs, _⟩ | ⟨ad, l, c, m, n, V, D, Pl, hcs, _, hl, hm, hmm, _, hx⟩
  · simp at hcs
    obtain ⟨rfl, rfl, rfl⟩ := hcs
    exact ⟨fun _ => 0, srow_nil _ _⟩
  · simp at hcs
    obtain ⟨rfl, rfl, rfl⟩ := hcs
    simp only [if_true] at hmm
    subst hmm
    obtain ⟨E, hE⟩ := Deep.choose_lt (α := Int) (n := m) (p := fun i b => V i = .int k b) (fun i hi => by
      obtain ⟨b, h1, _⟩ := DataW.trod_int he (hx i hi).2
      exact ⟨b, by simpa using h1⟩)
    exact ⟨E, .inr ⟨_, rfl⟩, vrow_of hl hm (fun i hi => (hx i hi).1) hE⟩

/-- A slice of rows that reads as data. -/
theorem open_rows {H : Type} {enc : TypeId × Value → H} {W : World} {a : Option Addr} {len cap fuel : Nat} {x : DataW H × List MemPlace}
    (hf : DataW.trod enc Try.prog W 0 (fun _ => true) true fuel 23 [.slice a len cap] = some x) : ∃ A L C X, HRow W a len cap A L C X := by
  rcases Deep.open_slice1 Try.underlying23 cells35 hf with ⟨hcs, _⟩ | ⟨ad, l, c, m, n, V, D, Pl, hcs, _, hl, hm, hmm, _, hx⟩
  · simp at hcs
    obtain ⟨rfl, rfl, rfl⟩ := hcs
    exact ⟨fun _ => none, fun _ => 0, fun _ => 0, fun _ _ => 0, srow_nil _ _, fun i hi => absurd hi (by omega)⟩
  · simp at hcs
    obtain ⟨rfl, rfl, rfl⟩ := hcs
    simp only [if_true] at hmm
    subst hmm
    obtain ⟨E, hE⟩ := Deep.choose_lt (α := Option Addr × Nat × Nat × (Nat → Int)) (n := m) (p := fun i b => V i = .slice b.1 b.2.1 b.2.2.1 ∧ SRow W b.1 b.2.1 b.2.2.1 (fun j => .int .u64 (b.2.2.2 j))) (fun i hi => by
      have h2 := (hx i hi).2
      rcases Deep.open_slice1 Try.underlying35 cells37 h2 with ⟨hv, _⟩ | ⟨ad', l', c', m', n', V', D', Pl', hv, _⟩
      · simp at hv
        exact ⟨(none, 0, 0, fun _ => 0), hv, srow_nil _ _⟩
      · simp at hv
        rw [hv] at h2
        obtain ⟨R, hR⟩ := open_nums Try.underlying35 Try.underlying37 cells37 h2
        exact ⟨(some ad', l', c', R), hv, hR⟩)
    exact ⟨fun i => (E i).1, fun i => (E i).2.1, fun i => (E i).2.2.1, fun i => (E i).2.2.2, ⟨.inr ⟨_, rfl⟩, vrow_of hl hm (fun i hi => (hx i hi).1) (fun i hi => (hE i hi).1)⟩, fun i hi => (hE i (by omega)).2⟩
end Go.Proofs.Qxb6617374a
