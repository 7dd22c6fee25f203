import Derived.WalkKit
import Derived.OpenShut
namespace Go.Proofs.Qxb6619857a
open Go.RowKit

namespace Pl
/-- one byte of a varint taken in, in the walk's own form -/
def vst (v : Int) (c : UInt8) (k : Nat) : Int :=
  bits .or .u64 v (IntKind.u64.wrap (IntKind.u64.wrap (bits .and .u8 (c.toNat : Int) 127) * 2 ^ (7 * k)))
theorem vst_bd (v : Int) (c : UInt8) (k : Nat) : 0 ≤ vst v c k ∧ vst v c k ≤ 18446744073709551615 := bounds_u64 (wf_bits _ _ _ _)

/-- a varint of at most ten bytes: its value and what is left -/
def uvGo : Nat → Int → List UInt8 → Option (Int × List UInt8)
  | _, _, [] => none
  | k, v, c :: r => if k < 10 then (if c < 128 then some (vst v c k, r) else uvGo (k + 1) (vst v c k) r) else none
def uv (l : List UInt8) : Option (Int × List UInt8) := uvGo 0 0 l

theorem uvGo_ten (k : Nat) (v : Int) (l : List UInt8) (h : 10 ≤ k) : uvGo k v l = none := by
  cases l with
  | nil => rfl
  | cons c r => simp [uvGo, Nat.not_lt.2 h]
theorem uvGo_stop (k : Nat) (v : Int) (c : UInt8) (r : List UInt8) (hk : k < 10) (hc : c < 128) : uvGo k v (c :: r) = some (vst v c k, r) := by
  simp [uvGo, hk, hc]
theorem uvGo_next (k : Nat) (v : Int) (c : UInt8) (r : List UInt8) (hk : k < 10) (hc : ¬ c < 128) : uvGo k v (c :: r) = uvGo (k + 1) (vst v c k) r := by
  simp [uvGo, hk, hc]
theorem uvGo_some {k : Nat} {v x : Int} {l r : List UInt8} (h : uvGo k v l = some (x, r)) :
    (∃ m, r = l.drop m ∧ 0 < m ∧ m ≤ l.length) ∧ 0 ≤ x ∧ x ≤ 18446744073709551615 := by
  induction l generalizing k v with
  | nil => simp [uvGo] at h
  | cons c t ih =>
    by_cases hk : k < 10
    · by_cases hc : c < 128
      · rw [uvGo_stop k v c t hk hc] at h
        simp only [Option.some.injEq, Prod.mk.injEq] at h
        obtain ⟨rfl, rfl⟩ := h
        exact ⟨⟨1, by simp, by omega, by simp⟩, vst_bd _ _ _⟩
      · rw [uvGo_next k v c t hk hc] at h
        obtain ⟨⟨m, e, h0, hm⟩, hx⟩ := ih h
        exact ⟨⟨m + 1, by simpa using e, by omega, by simp; omega⟩, hx⟩
    · rw [uvGo_ten k v _ (by omega)] at h; simp at h
theorem uvGo_append {k : Nat} {v x : Int} {l r : List UInt8} (h : uvGo k v l = some (x, r)) (q : List UInt8) : uvGo k v (l ++ q) = some (x, r ++ q) := by
  induction l generalizing k v with
  | nil => simp [uvGo] at h
  | cons c t ih =>
    by_cases hk : k < 10
    · by_cases hc : c < 128
      · rw [uvGo_stop k v c t hk hc] at h
        simp only [Option.some.injEq, Prod.mk.injEq] at h
        obtain ⟨rfl, rfl⟩ := h
        rw [List.cons_append, uvGo_stop k v c _ hk hc]
      · rw [uvGo_next k v c t hk hc] at h
        rw [List.cons_append, uvGo_next k v c _ hk hc]
        exact ih h
    · rw [uvGo_ten k v _ (by omega)] at h; simp at h

/-- the records of a well-formed packing -/
def Recs : List (Int × List UInt8) → List UInt8 → Prop
  | [], l => l = []
  | (a, e) :: rs, l => ∃ r1 rest, uv l = some (a, r1) ∧ uv r1 = some ((e.length : Int), e ++ rest) ∧ Recs rs rest
theorem recs_append {rp rq : List (Int × List UInt8)} {p q : List UInt8} (hp : Recs rp p) (hq : Recs rq q) : Recs (rp ++ rq) (p ++ q) := by
  induction rp generalizing p with
  | nil => cases (show p = [] from hp); exact hq
  | cons x rs ih =>
    obtain ⟨a, e⟩ := x
    obtain ⟨r1, rest, h1, h2, h3⟩ := hp
    exact ⟨r1 ++ q, rest ++ q, uvGo_append h1 q, by rw [← List.append_assoc]; exact uvGo_append h2 q, ih h3⟩
theorem recs_nil {rs : List (Int × List UInt8)} (h : Recs rs []) : rs = [] := by
  cases rs with
  | nil => rfl
  | cons x t => obtain ⟨a, e⟩ := x; obtain ⟨r1, rest, h1, _⟩ := h; simp [uv, uvGo] at h1
theorem recs_cons {rs : List (Int × List UInt8)} {l : List UInt8} (h : Recs rs l) (h0 : l ≠ []) :
    ∃ a e t r1 rest, rs = (a, e) :: t ∧ uv l = some (a, r1) ∧ uv r1 = some ((e.length : Int), e ++ rest) ∧ Recs t rest := by
  cases rs with
  | nil => exact absurd h h0
  | cons x t => obtain ⟨a, e⟩ := x; obtain ⟨r1, rest, h1, h2, h3⟩ := h; exact ⟨a, e, t, r1, rest, rfl, h1, h2, h3⟩
def sumLen (rs : List (Int × List UInt8)) : Nat := (rs.map (fun x => x.2.length)).sum
theorem sumLen_append (a b : List (Int × List UInt8)) : sumLen (a ++ b) = sumLen a + sumLen b := by simp [sumLen]
theorem recs_len {rs : List (Int × List UInt8)} {l : List UInt8} (h : Recs rs l) : rs.length + sumLen rs ≤ l.length := by
  induction rs generalizing l with
  | nil => simp [sumLen]
  | cons x t ih =>
    obtain ⟨a, e⟩ := x
    obtain ⟨r1, rest, h1, h2, h3⟩ := h
    obtain ⟨⟨m1, e1, p1, q1⟩, _⟩ := uvGo_some h1
    obtain ⟨⟨m2, e2, p2, q2⟩, _⟩ := uvGo_some h2
    have l1 := congrArg List.length e1
    have l2 := congrArg List.length e2
    simp at l1 l2
    have := ih h3
    simp only [sumLen, List.map_cons, List.sum_cons, List.length_cons] at *
    omega

/-- b1Records so far: 'done' are the records ahead of what is left -/
def Sofar (p : List UInt8) (done : List (Int × List UInt8)) (i : Nat) : Prop :=
  (∀ rs, Recs rs (p.drop i) → Recs (done ++ rs) p) ∧ done.length + sumLen done ≤ i
theorem sofar_start (p : List UInt8) : Sofar p [] 0 := ⟨fun rs h => by simpa using h, by simp [sumLen]⟩
theorem sofar_step {p : List UInt8} {done : List (Int × List UInt8)} {i m1 m2 n : Nat} {a : Int} {r1 r2 : List UInt8}
    (h : Sofar p done i) (h1 : uv (p.drop i) = some (a, r1)) (him : i < m1) (h2 : uv r1 = some ((n : Int), r2)) (e2 : r2 = p.drop m2) (hm : m1 < m2) (hn : m2 + n ≤ p.length) :
    Sofar p (done ++ [(a, (p.drop m2).take n)]) (m2 + n) := by
  have hl : ((p.drop m2).take n).length = n := by simp; omega
  refine ⟨fun rs hr => ?_, ?_⟩
  · rw [List.append_assoc]
    refine h.1 _ ?_
    show ∃ r1 rest, _
    refine ⟨r1, p.drop (m2 + n), h1, ?_, hr⟩
    rw [h2, hl, e2]
    congr 2
    rw [← List.drop_drop, List.take_append_drop]
  · have := h.2
    rw [sumLen_append]
    simp only [List.length_append, List.length_cons, List.length_nil, sumLen, List.map_cons, List.map_nil, List.sum_cons, List.sum_nil, hl] at *
    omega
theorem sofar_end {p : List UInt8} {done : List (Int × List UInt8)} {i : Nat} (h : Sofar p done i) (hi : p.length ≤ i) : Recs done p := by
  have := h.1 [] (by rw [List.drop_of_length_le hi]; rfl)
  simpa using this
end Pl
end Go.Proofs.Qxb6619857a
