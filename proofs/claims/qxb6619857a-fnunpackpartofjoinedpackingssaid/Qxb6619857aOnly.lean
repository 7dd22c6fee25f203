import Derived.Test.Qxb6619857aGuards
namespace Go.Proofs.Qxb6619857a
open Go.RowKit

namespace Pl
def sumTo (rs : List (Int × List UInt8)) (k : Nat) : Nat := sumLen (rs.take k)
theorem sumTo_succ (rs : List (Int × List UInt8)) (k : Nat) (h : k < rs.length) : sumTo rs (k + 1) = sumTo rs k + (eOf (rs.map part) k).size := by
  unfold sumTo
  rw [List.take_succ_eq_append_getElem h, sumLen_append]
  congr 1
  simp [sumLen, eOf, part, List.getD, h, ByteArray.size]
theorem sumTo_le (rs : List (Int × List UInt8)) (k : Nat) : sumTo rs k ≤ sumLen rs := by
  have := sumLen_append (rs.take k) (rs.drop k)
  rw [List.take_append_drop] at this
  unfold sumTo; omega
theorem sumTo_all (rs : List (Int × List UInt8)) : sumTo rs rs.length = sumLen rs := by
  unfold sumTo; rw [List.take_length]
end Pl
theorem eOf_left (E : Nat → ByteArray) (R : Nat → Int) (n : Nat) (qs : List (ByteArray × Int)) (i : Nat) (h : i < n) : eOf (mades E R n ++ qs) i = E i ∧ rOf (mades E R n ++ qs) i = R i := by
  unfold eOf rOf
  simp [List.getD, List.getElem?_append, mades, h]
theorem eOf_right (E : Nat → ByteArray) (R : Nat → Int) (n : Nat) (qs : List (ByteArray × Int)) (i : Nat) : eOf (mades E R n ++ qs) (n + i) = eOf qs i ∧ rOf (mades E R n ++ qs) (n + i) = rOf qs i := by
  unfold eOf rOf
  have h : ¬ n + i < n := by omega
  simp [List.getD, List.getElem?_append, mades, h]

theorem own_prow {w : World} {B n cap : Nat} {a : Option Addr} {ps : List (ByteArray × Int)} (h : Own w B (.slice a n cap) ps) (hn : n = ps.length) : PRow w a n (eOf ps) (rOf ps) := by
  obtain ⟨a', cap', e, hr⟩ := own_row h
  simp only [Value.slice.injEq] at e
  obtain ⟨rfl, rfl, rfl⟩ := e
  exact hr
theorem VRow.below {W w' : World} {a : Option Addr} {n : Nat} {V : Nat → Value} (h : VRow W a n V) (hb : Below W.heap.size W w') : VRow w' a n V := by
  refine ⟨h.1, fun h0 => ?_⟩
  obtain ⟨b, off, e, hlt, hc⟩ := h.2 h0
  exact ⟨b, off, e, by have := hb.size; omega, fun i hi => by rw [hb.cell (by exact hlt)]; exact hc i hi⟩

theorem cell_lt {w : World} {a : Addr} {v : Value} (h : w.cell? a = some v) : a.block < w.heap.size := by
  refine Nat.lt_of_not_le fun hle => ?_
  simp [World.cell?, Array.getElem?_eq_none hle] at h

namespace fnUnpackPartOnlyAppendsToMade
set_option maxRecDepth 20000 in
set_option maxHeartbeats 2000000 in
theorem walk (a0 : Option Addr) (len0 cap0 : Nat) (E : Nat → ByteArray) (a1 : Option Addr) (len1 cap1 : Nat) (R : Nat → Int) (a2 : ByteArray) (w : World)
    (w0 : VRow w a0 len0 (fun i => .string (E i))) (w1 : VRow w a1 len1 (fun i => .int .i64 (R i))) (w2 : a2.size ≤ maxLen) :
    Calls Try.prog 4 #[.slice a0 len0 cap0, .slice a1 len1 cap1, .string a2] w fun e w' => e = .returned (.bool true) ∧ Below w.heap.size w w' := by
  have hl0 := w0.1
  have hl1 := w1.1
  have H0 : Hid (VRow w a0 len0 (fun i => .string (E i))) := w0
  have H1 : Hid (VRow w a1 len1 (fun i => .int .i64 (R i))) := w1
  unfold maxLen at hl0 hl1 w2
  clear w0 w1
  go_enter Try.func4, Try.ntmps4
  go_wp2_with fail
  refine (bytes13_any a0 a1 len0 len1 cap0 cap1 a2 E _ H0.out).mono ?_
  rintro e w' ⟨⟨b, rfl⟩, rfl⟩
  cases b with
  | false =>
    go_wp2
    go_ret
    exact ⟨rfl, Below.refl _ _⟩
  | true =>
  by_cases h1 : 65536 < len0
  · go_wp2
    go_ret
    exact ⟨rfl, Below.refl _ _⟩
  by_cases h2 : 65536 < len1
  · go_wp2
    go_ret
    exact ⟨rfl, Below.refl _ _⟩
  by_cases h3 : 1048576 < a2.size
  · go_wp2
    go_ret
    exact ⟨rfl, Below.refl _ _⟩
  by_cases h4 : 1048576 < 16 * (len0 : Int) + 8 * (len1 : Int) + (a2.size : Int)
  · go_wp2
    go_ret
    exact ⟨rfl, Below.refl _ _⟩
  go_wp2_with fail
  refine (addlens_any _ a0 len0 cap0 E _ (by omega) H0.out).mono ?_
  rintro e w' ⟨⟨x, rfl⟩, rfl⟩
  by_cases h5 : 1048576 < x
  · go_wp2
    go_ret
    exact ⟨rfl, Below.refl _ _⟩
  by_cases h6 : len1 = len0
  · subst h6
    go_wp2_with fail
    refine (records_any a2 _ (by omega)).mono ?_
    rintro e W ⟨v, rfl, hans, rfl⟩
    rcases hans with hv | ⟨rs, hrs, hv⟩
    · rw [hv]
      clear hv
      go_wp2
      go_ret
      exact ⟨rfl, Below.refl _ _⟩
    rw [hv]
    clear hv v
    have hrl := Pl.recs_len hrs
    have hrl' : rs.length + Pl.sumLen rs ≤ a2.size := by simpa using hrl
    have HR : Hid (Pl.Recs rs a2.data.toList) := hrs
    clear hrs hrl
    go_wp2_with fail
    refine (made_sl a0 a1 len1 cap0 cap1 E R _ (by omega) H0.out H1.out).mono ?_
    rintro e wA ⟨aA, cA, rfl, HA, hbA⟩
    go_wp2_with fail
    refine (zz_any _ a2 _ W.heap.size (mades E R len1) rs HA.out hbA.size HR.out (by omega) (by rw [mades_len]; omega)).mono ?_
    rintro e wB ⟨aB, cB, rfl, HB, hbB⟩
    rw [mades_len] at HB
    rw [mades_len]
    go_wp2_with fail
    refine (zz_any (.slice none 0 0) a2 _ wB.heap.size [] rs (World.ownsRow_nil _ _ _ _) (Nat.le_refl _) HR.out (by omega) (by simp)).mono ?_
    rintro e wC ⟨aC, cC, rfl, HC, hbC⟩
    simp only [List.length_nil, Nat.zero_add, List.nil_append] at HC ⊢
    have hbAC : Below W.heap.size W wC := hbA.trans (hbB.trans (hbC.mono (Nat.le_trans hbA.size hbB.size)))
    have HB' : Hid (Own wC W.heap.size (.slice aB (len1 + rs.length) cB) (mades E R len1 ++ rs.map part)) := own_below HB.out hbC (Nat.le_refl _)
    have PB : Hid (PRow wC aB (len1 + rs.length) (eOf (mades E R len1 ++ rs.map part)) (rOf (mades E R len1 ++ rs.map part))) := own_prow HB'.out (by rw [List.length_append, mades_len, List.length_map])
    have PC : Hid (PRow wC aC rs.length (eOf (rs.map part)) (rOf (rs.map part))) := own_prow HC.out (by rw [List.length_map])
    have V0 : Hid (VRow wC a0 len1 (fun i => .string (E i))) := H0.out.below hbAC
    have V1 : Hid (VRow wC a1 len1 (fun i => .int .i64 (R i))) := H1.out.below hbAC
    clear HA HB hbA hbB hbC HC HB'
    go_wp2_with fail
    refine (starts_any aB a0 a1 (len1 + rs.length) cB len1 cap0 cap1 E R wC (by omega) (by omega) (by omega) ((PB.out.le (by omega)).congr (fun i hi => eOf_left E R len1 _ i hi)) V0.out V1.out).mono ?_
    rintro e wD ⟨rfl, hq⟩
    have HQ : Hid (∃ q, wD = wC.drewN q) := hq
    clear hq
    go_wp2
    go_loopw [13, 14] (fun sm i wr => ∃ k : Nat, k ≤ rs.length ∧ i = .int .i64 k ∧ sm = .int .i64 (Pl.sumTo rs k : Int) ∧ Below wD.heap.size wD wr) (fun _ i _ => rs.length - (intOf i).toNat)
    case atStart => exact ⟨0, Nat.zero_le _, rfl, rfl, Below.refl _ _⟩
    case round =>
      obtain ⟨k, hk, rfl, rfl, hbel⟩ := hrel
      by_cases hlt : k < rs.length
      · obtain ⟨gB, rfl, hcB⟩ := PB.out (by omega)
        obtain ⟨gC, rfl, hcC⟩ := PC.out (by omega)
        have b1 := hcB (len1 + k) (by omega)
        rw [(eOf_right E R len1 (rs.map part) k).1, (eOf_right E R len1 (rs.map part) k).2] at b1
        have b2 := hcC k hlt
        have hsz : wC.heap.size ≤ wr.heap.size := by have := hbel.size; obtain ⟨q, rfl⟩ := HQ.out; simpa using this
        have lB : gB < wr.heap.size := by have := cell_lt b1.1; simp at this; omega
        have lC : gC < wr.heap.size := by have := cell_lt b2.1; simp at this; omega
        have tr : ∀ g o u, wC.cell? ⟨g, o, none⟩ = some u → wr.cell? ⟨g, o, none⟩ = some u := by
          intro g o u h
          have hl := cell_lt h
          obtain ⟨q, rfl⟩ := HQ.out
          rw [hbel.cell (by simpa using hl)]
          exact h
        have c1 := tr _ _ _ b1.1
        have c2 := tr _ _ _ b1.2
        have c3 := tr _ _ _ b2.1
        have c4 := tr _ _ _ b2.2
        have hs1 := Pl.sumTo_succ rs k hlt
        have hs2 := Pl.sumTo_le rs (k + 1)
        have SS : Hid (Pl.sumTo rs (k + 1) = Pl.sumTo rs k + (eOf (rs.map part) k).size) := hs1
        have hbd : Pl.sumTo rs k + (eOf (rs.map part) k).size ≤ 1048576 := by omega
        generalize eOf (rs.map part) k = ek at *
        generalize rOf (rs.map part) k = rk at *
        have i1 : (k : Int) < (rs.length : Int) := by omega
        have i2 : (len1 : Int) + (k : Int) < (len1 : Int) + (rs.length : Int) := by omega
        have i3 : ((len1 : Int) + (k : Int)).toNat = len1 + k := by omega
        have i4 : (0 : Int) ≤ (len1 : Int) + (k : Int) := by omega
        clear hcB hcC b1 b2 tr hs1 hs2 hsz
        go_wp2
        go_quiet (fail)
        go_wp2
        go_roundw
        case rel => exact ⟨k + 1, by omega, by go_num, by rw [SS.out]; go_num, below_drewN (hbel.alloc hbel.size _) _⟩
        case measure => simp [intOf]; omega
      · have hkr : k = rs.length := by omega
        have SE : Hid (Pl.sumTo rs k = Pl.sumLen rs) := by show Pl.sumTo rs k = _; rw [hkr, Pl.sumTo_all]
        have hbF : Below W.heap.size W wr := by
          obtain ⟨q, rfl⟩ := HQ.out
          exact (below_drewN hbAC q).trans (hbel.mono (by have := hbAC.size; simpa using this))
        clear hkr
        go_wp2
        go_ret
        exact ⟨ret_eq (by rw [SE.out]; simp), hbF⟩
  · have e6 : ((len1 : Int) != (len0 : Int)) = true := by rw [bne_iff_ne]; omega
    go_wp2
    go_ret
    exact ⟨rfl, Below.refl _ _⟩
end fnUnpackPartOnlyAppendsToMade
end Go.Proofs.Qxb6619857a
