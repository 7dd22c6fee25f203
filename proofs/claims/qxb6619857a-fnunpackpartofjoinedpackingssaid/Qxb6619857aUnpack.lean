import Derived.Test.Qxb6619857aRecords
import Derived.OwnWalk
import Derived.Below
namespace Go.Proofs.Qxb6619857a
open Go.RowKit

theorem Try.info35 : (Try.prog.info? 35).map (fun i => (i.zero, i.size, i.bytes)) = some (some (.agg #[.string ByteArray.empty, .int .i64 0]), 2, 24) := by kernel_rfl

/-- the cells of a list of parts -/
def cells2 (ps : List (ByteArray × Int)) : List Value := ps.flatMap fun x => [.string x.1, .int .i64 x.2]
theorem cells2_len (ps : List (ByteArray × Int)) : (cells2 ps).length = ps.length * 2 := by
  induction ps with
  | nil => rfl
  | cons x t ih => simp only [cells2, List.flatMap_cons, List.length_append, List.length_cons, List.length_nil] at *; omega
theorem cells2_append (a b : List (ByteArray × Int)) : cells2 (a ++ b) = cells2 a ++ cells2 b := by simp [cells2]
/-- v is the call's own slice of parts -/
def Own (w : World) (B : Nat) (v : Value) (ps : List (ByteArray × Int)) : Prop := w.ownsRow B 35 2 v ps.length (cells2 ps)
theorem Own.drewN {w : World} {B : Nat} {v : Value} {ps : List (ByteArray × Int)} (h : Own w B v ps) (q : Nat) : Own (w.drewN q) B v ps := h
def part (x : Int × List UInt8) : ByteArray × Int := (⟨x.2.toArray⟩, wrap64 x.1)
def strLen : Value → Nat | .string s => s.size | _ => 0

theorem bytes_inj {a b : ByteArray} (h : a.data.toList = b.data.toList) : a = b := by
  cases a; cases b; simp at h; exact congrArg ByteArray.mk h
theorem own_push {w2 : World} {B : Nat} {v' : Value} {ps : List (ByteArray × Int)} {x : ByteArray × Int} {n : Nat} (hn : n = ps.length + 1)
    (h : w2.ownsRow B 35 2 v' n (cells2 ps ++ [.string x.1, .int .i64 x.2])) : Own w2 B v' (ps ++ [x]) := by
  unfold Own
  rw [cells2_append, List.length_append]
  subst hn
  exact h
theorem below_push {w wr w2 : World} {B q : Nat} {v : Value} {o : Obj} {ps : List (ByteArray × Int)} (hb : Below B w wr) (hB : B ≤ w.heap.size) (ho : Own wr B v ps)
    (hg : ((wr.drewN q).alloc o).grownBy w2 v.ownBlock) : Below B w w2 := by
  have hs := hb.size
  refine ((below_drewN hb q).alloc (by simp; omega) o).grown hg (by simp; omega) (fun k hk => ?_)
  exact (World.ownsRow.lt ho k hk).1

set_option maxRecDepth 20000 in
set_option maxHeartbeats 1000000 in
theorem unpack_any (v : Value) (s : ByteArray) (w : World) (B : Nat) (ps : List (ByteArray × Int)) (rs : List (Int × List UInt8))
    (hown : Own w B v ps) (hB : B ≤ w.heap.size) (hr : Pl.Recs rs s.data.toList) (hs : s.size ≤ 2097152) (hp : ps.length ≤ 1048576) :
    Calls Try.prog 18 #[v, .string s] w fun e w' => ∃ v', e = .returned v' ∧ Own w' B v' (ps ++ rs.map part) ∧ Below B w w' := by
  have HO : Hid (Own w B v ps) := hown
  have HR : Hid (Pl.Recs rs s.data.toList) := hr
  clear hown hr
  obtain ⟨i0, hi, hz0, hz1, hz2⟩ := info_parts Try.info35
  go_enter Try.func18, Try.ntmps18
  go_wp2
  go_loopw [0, 1] (fun mv pk wr => ∃ (done left : List (Int × List UInt8)) (t : ByteArray), pk = .string t ∧ Hid (rs = done ++ left) ∧ Hid (Pl.Recs left t.data.toList) ∧ t.size ≤ s.size ∧ Hid (Own wr B mv (ps ++ done.map part)) ∧ Below B w wr) (fun _ pk _ => strLen pk)
  case atStart => exact ⟨[], rs, s, rfl, rfl, HR.out, Nat.le_refl _, by show Own _ _ _ _; simpa using HO.out, Below.refl _ _⟩
  case round =>
    obtain ⟨done, left, t, rfl, H1, H2, hts, H3, hbel⟩ := hrel
    by_cases h0 : t.data.toList = []
    · have he : t.toList.isEmpty = true := by rw [ByteArray.toList_eq, h0]; rfl
      have HR2 : Hid (rs = done) := by
        have h := H2.out
        rw [h0] at h
        have := H1.out
        rw [Pl.recs_nil h, List.append_nil] at this
        exact this
      clear h0 H1 H2
      go_wp2
      go_ret
      exact ⟨_, rfl, by rw [HR2.out]; exact H3.out, hbel⟩
    · have he : t.toList.isEmpty = false := by rw [ByteArray.toList_eq]; exact List.isEmpty_eq_false_iff.2 h0
      obtain ⟨a, e, left', r1, rest, e0, u1, u2, u3⟩ := Pl.recs_cons H2.out h0
      obtain ⟨⟨m1, e1, p1, q1⟩, ha⟩ := Pl.uvGo_some u1
      obtain ⟨⟨m2, e2, p2, q2⟩, _⟩ := Pl.uvGo_some u2
      have U1 : Hid (Pl.uv t.data.toList = some (a, t.data.toList.drop m1)) := by rw [← e1]; exact u1
      have hm1 : m1 ≤ t.size := by simpa using q1
      obtain ⟨t1, ht1⟩ : ∃ t1, t1 = t.extract m1 t.size := ⟨_, rfl⟩
      have ht1l : t1.data.toList = r1 := by
        rw [ht1, extract_list, e1, List.take_of_length_le (by simp)]
      have ht1s : t1.size = t.size - m1 := by
        have := congrArg List.length ht1l; rw [e1] at this; simpa using this
      have U2 : Hid (Pl.uv t1.data.toList = some ((e.length : Int), t1.data.toList.drop m2)) := by
        show Pl.uv _ = _
        rw [ht1l, ← e2]; exact u2
      have hm2 : m2 ≤ t1.size := by
        have := q2; rw [← ht1l] at this; simpa using this
      obtain ⟨t2, ht2⟩ : ∃ t2, t2 = t1.extract m2 t1.size := ⟨_, rfl⟩
      have ht2l : t2.data.toList = e ++ rest := by
        rw [ht2, extract_list, ht1l, e2, List.take_of_length_le (by rw [← ht1l]; simp)]
      have ht2s : t2.size = e.length + rest.length := by
        have := congrArg List.length ht2l; simpa using this
      have ht2t : t2.size + 2 ≤ t.size := by
        have : t2.size = t1.size - m2 := by
          have := congrArg List.length ht2l
          rw [e2, ← ht1l] at this
          simpa using this
        omega
      have T1 : Hid (t.extract m1 t.size = t1) := ht1.symm
      have T2 : Hid (t1.extract m2 t1.size = t2) := ht2.symm
      have T3 : Hid (t2.data.toList = e ++ rest) := ht2l
      have E0 : Hid (rs = (done ++ [(a, e)]) ++ left') := by
        show rs = _
        rw [H1.out, e0]; simp
      have R3 : Hid (Pl.Recs left' rest) := u3
      have hen : e.length ≤ t2.size := by omega
      obtain ⟨ne, hne⟩ : ∃ ne, ne = e.length := ⟨_, rfl⟩
      have NE : Hid (e.length = ne) := hne.symm
      rw [NE.out] at U2 hen
      clear e0 u1 u2 u3 e1 e2 ht1 ht2 ht1l ht2l h0 H1 H2 ht1s q1 q2 p1 p2 hne ht2s
      go_wp2_with fail
      refine (packed_any t _ a m1 hm1 U1.out).mono ?_
      rintro e' w1 ⟨rfl, q', rfl⟩
      rw [T1.out]
      go_wp2_with fail
      refine (packed_any t1 _ (ne : Int) m2 hm2 U2.out).mono ?_
      rintro e' w1 ⟨rfl, q'', rfl⟩
      rw [T2.out]
      have EE : Hid (t2.extract 0 ne = ⟨e.toArray⟩) := by
        refine bytes_inj ?_
        rw [extract_list, T3.out, Nat.sub_zero, List.drop_zero, ← NE.out, List.take_left]
      have RR : Hid ((t2.extract ne t2.size).data.toList = rest) := by
        show (t2.extract ne t2.size).data.toList = rest
        rw [extract_list, T3.out, ← NE.out, List.drop_left, List.take_of_length_le]
        have := congrArg List.length T3.out
        simp at this
        omega
      have hlen : (ps ++ done.map part).length ≤ 1048576 + 2097152 := by
        have h1 := congrArg List.length E0.out
        have h2 := Pl.recs_len HR.out
        simp at h1 h2 ⊢
        omega
      go_wp2_with (at_builtin; refine wpList_append_own _ rfl _ _ 28 rfl B 35 i0 (.agg #[.string ByteArray.empty, .int .i64 0]) 2 24 Try.underlying28 hi hz0 hz1 hz2 rfl (by decide) _ _ _ rfl ((H3.out.drewN _).alloc _) ⟨wr.heap.size, 0, none⟩ 1 1 [.string (t2.extract 0 ne), .int .i64 (wrap64 a)] rfl rfl ?c1 ?c2 ?c3 ?c4 ?c5 ?_)
      case c1 => exact cell_two_new (wr.drewN _) _ _ 35
      case c2 => intro u hu; simp at hu; rcases hu with rfl | rfl <;> rfl
      case c3 => unfold maxLen; omega
      case c4 => omega
      case c5 => have := hbel.size; simp; omega
      intro v' w2 hown' hgrow _
      have hb2 := below_push hbel hB H3.out hgrow
      have ho2 : Hid (Own w2 B v' (ps ++ (done ++ [(a, e)]).map part)) := by
        rw [EE.out] at hown'
        have := own_push (ps := ps ++ done.map part) (x := part (a, e)) (n := ps.length + done.length + 1) (by simp) hown'
        rw [List.append_assoc] at this
        show Own _ _ _ _
        simpa using this
      clear hown' hgrow H3 hlen
      go_wp2
      go_roundw
      case rel => exact ⟨done ++ [(a, e)], left', t2.extract ne t2.size, rfl, E0, by show Pl.Recs _ _; rw [RR.out]; exact R3.out, by simp; omega, ho2, hb2⟩
      case measure => simp [strLen]; omega
end Go.Proofs.Qxb6619857a
