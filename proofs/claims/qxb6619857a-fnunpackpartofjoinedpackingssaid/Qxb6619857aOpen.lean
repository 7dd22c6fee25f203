import Derived.Test.Qxb6619857aOnly
import Derived.ProofKit
import Derived.OpenShut
import Derived.ShutString
import Derived.ChangeOld
import Derived.Below
import Derived.Deep.Slices
namespace Go.Proofs.Qxb6619857a
open Go.ChangeShapes Go.WideShapes Go.ChangeAt Go.RowKit

theorem own : ownKnob Try.prog.godebug = none := by kernel_rfl
theorem laidOut : laidOutB Try.prog = true := by kernel_rfl
theorem cells9 : Try.prog.cellsOf 9 = 1 := by kernel_rfl
theorem cells3 : Try.prog.cellsOf 3 = 1 := by kernel_rfl

/-- A slice of strings that reads as data: what the walk is told of it. -/
theorem open_strs {H : Type} {enc : TypeId × Value → H} {W : World} {a : Option Addr} {len cap fuel : Nat} {x : DataW H × List MemPlace}
    (hf : DataW.trod enc Try.prog W 0 (fun _ => true) true fuel 22 [.slice a len cap] = some x) : ∃ E : Nat → ByteArray, VRow W a len (fun i => .string (E i)) := by
  rcases Deep.open_slice1 Try.underlying22 cells9 hf with ⟨hcs, _⟩ | ⟨ad, l, c, m, n, V, D, Pl, hcs, _, hl, hm, hmm, _, hx⟩
  · simp at hcs
    obtain ⟨rfl, rfl, rfl⟩ := hcs
    exact ⟨fun _ => ByteArray.empty, Nat.zero_le _, fun h => absurd h (by omega)⟩
  · simp at hcs
    obtain ⟨rfl, rfl, rfl⟩ := hcs
    simp only [if_true] at hmm
    subst hmm
    obtain ⟨E, hE⟩ := Deep.choose_lt (α := ByteArray) (n := m) (p := fun i b => V i = .string b) (fun i hi => by
      obtain ⟨b, h1, _⟩ := DataW.trod_string Try.underlying9 (hx i hi).2
      exact ⟨b, by simpa using h1⟩)
    refine ⟨E, by omega, fun hp => ?_⟩
    obtain ⟨b, off, spot⟩ := ad
    have hspot : spot = none := by simpa [Addr.add] using World.cell?_spot (hx 0 (by omega)).1
    subst hspot
    have hlt := cell_lt (hx 0 (by omega)).1
    rw [add_plain] at hlt
    refine ⟨b, off, rfl, hlt, fun i hi => ?_⟩
    have := (hx i (by omega)).1
    rw [add_plain, hE i (by omega)] at this
    exact this
/-- A slice of ints that reads as data. -/
theorem open_nums {H : Type} {enc : TypeId × Value → H} {W : World} {a : Option Addr} {len cap fuel : Nat} {x : DataW H × List MemPlace}
    (hf : DataW.trod enc Try.prog W 0 (fun _ => true) true fuel 23 [.slice a len cap] = some x) : ∃ R : Nat → Int, VRow W a len (fun i => .int .i64 (R i)) := by
  rcases Deep.open_slice1 Try.underlying23 cells3 hf with ⟨hcs, _⟩ | ⟨ad, l, c, m, n, V, D, Pl, hcs, _, hl, hm, hmm, _, hx⟩
  · simp at hcs
    obtain ⟨rfl, rfl, rfl⟩ := hcs
    exact ⟨fun _ => 0, Nat.zero_le _, fun h => absurd h (by omega)⟩
  · simp at hcs
    obtain ⟨rfl, rfl, rfl⟩ := hcs
    simp only [if_true] at hmm
    subst hmm
    obtain ⟨E, hE⟩ := Deep.choose_lt (α := Int) (n := m) (p := fun i b => V i = .int .i64 b) (fun i hi => by
      obtain ⟨b, h1, _⟩ := DataW.trod_int Try.underlying3 (hx i hi).2
      exact ⟨b, by simpa using h1⟩)
    refine ⟨E, by omega, fun hp => ?_⟩
    obtain ⟨b, off, spot⟩ := ad
    have hspot : spot = none := by simpa [Addr.add] using World.cell?_spot (hx 0 (by omega)).1
    subst hspot
    have hlt := cell_lt (hx 0 (by omega)).1
    rw [add_plain] at hlt
    refine ⟨b, off, rfl, hlt, fun i hi => ?_⟩
    have := (hx i (by omega)).1
    rw [add_plain, hE i (by omega)] at this
    exact this
end Go.Proofs.Qxb6619857a
