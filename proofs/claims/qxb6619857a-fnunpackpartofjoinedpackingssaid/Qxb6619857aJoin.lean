import Derived.Test.Qxb6619857aOnly
namespace Go.Proofs.Qxb6619857a
open Go.RowKit

theorem app_list (a b : ByteArray) : (a ++ b).data.toList = a.data.toList ++ b.data.toList := by simp
theorem app_size (a b : ByteArray) : (a ++ b).size = a.size + b.size := by simp [ByteArray.size_append]

namespace fnUnpackPartOfJoinedPackings
set_option maxRecDepth 20000 in
set_option maxHeartbeats 4000000 in
theorem walk (a0 : Option Addr) (len0 cap0 : Nat) (E : Nat → ByteArray) (a1 : Option Addr) (len1 cap1 : Nat) (R : Nat → Int) (p q : ByteArray) (w : World)
    (w0 : VRow w a0 len0 (fun i => .string (E i))) (w1 : VRow w a1 len1 (fun i => .int .i64 (R i))) (w2 : p.size ≤ maxLen) (w3 : q.size ≤ maxLen) :
    Calls Try.prog 3 #[.slice a0 len0 cap0, .slice a1 len1 cap1, .string p, .string q] w fun e w' => e = .returned (.bool true) ∧ Below w.heap.size w w' := by
  have hl0 := w0.1
  have hl1 := w1.1
  have H0 : Hid (VRow w a0 len0 (fun i => .string (E i))) := w0
  have H1 : Hid (VRow w a1 len1 (fun i => .int .i64 (R i))) := w1
  unfold maxLen at hl0 hl1 w2 w3
  clear w0 w1
  go_enter Try.func3, Try.ntmps3
  go_wp2_with fail
  refine (bytes6_any a0 a1 len0 len1 cap0 cap1 p q E _ H0.out).mono ?_
  rintro e w' ⟨⟨b, rfl⟩, rfl⟩
  cases b with
  | false =>
    go_wp2
    go_ret
    exact ⟨rfl, Below.refl _ _⟩
  | true =>
  by_cases h1 : 65536 < len0
  · go_wp2
    go_ret
    exact ⟨rfl, Below.refl _ _⟩
  by_cases h2 : 65536 < len1
  · go_wp2
    go_ret
    exact ⟨rfl, Below.refl _ _⟩
  by_cases h3 : 1048576 < p.size
  · go_wp2
    go_ret
    exact ⟨rfl, Below.refl _ _⟩
  by_cases h3q : 1048576 < q.size
  · go_wp2
    go_ret
    exact ⟨rfl, Below.refl _ _⟩
  by_cases h4 : 1048576 < 16 * (len0 : Int) + 8 * (len1 : Int) + (p.size : Int) + (q.size : Int)
  · go_wp2
    go_ret
    exact ⟨rfl, Below.refl _ _⟩
  go_wp2_with fail
  refine (addlens_any _ a0 len0 cap0 E _ (by omega) H0.out).mono ?_
  rintro e w' ⟨⟨x, rfl⟩, rfl⟩
  by_cases h5 : 1048576 < x
  · go_wp2
    go_ret
    exact ⟨rfl, Below.refl _ _⟩
  by_cases h6 : len1 = len0
  · subst h6
    go_wp2_with fail
    refine (records_any p _ (by omega)).mono ?_
    rintro e W ⟨v, rfl, hans, rfl⟩
    rcases hans with hv | ⟨rp, hrp, hv⟩
    · rw [hv]
      clear hv
      go_wp2_with fail
      refine (records_any q _ (by omega)).mono ?_
      rintro e W ⟨v, rfl, hans, rfl⟩
      rcases hans with hv | ⟨rq, hrq, hv⟩
      · rw [hv]
        clear hv
        go_wp2
        go_ret
        exact ⟨rfl, Below.refl _ _⟩
      · rw [hv]
        clear hv hrq
        go_wp2
        go_ret
        exact ⟨rfl, Below.refl _ _⟩
    rw [hv]
    clear hv v
    have hrl := Pl.recs_len hrp
    have hrlp : rp.length + Pl.sumLen rp ≤ p.size := by simpa using hrl
    have HRP : Hid (Pl.Recs rp p.data.toList) := hrp
    clear hrp hrl
    go_wp2_with fail
    refine (records_any q _ (by omega)).mono ?_
    rintro e W ⟨v, rfl, hans, rfl⟩
    rcases hans with hv | ⟨rq, hrq, hv⟩
    · rw [hv]
      clear hv
      go_wp2
      go_ret
      exact ⟨rfl, Below.refl _ _⟩
    rw [hv]
    clear hv v
    have hrl := Pl.recs_len hrq
    have hrlq : rq.length + Pl.sumLen rq ≤ q.size := by simpa using hrl
    have HRQ : Hid (Pl.Recs rq q.data.toList) := hrq
    have HRJ : Hid (Pl.Recs (rp ++ rq) (p ++ q).data.toList) := by
      show Pl.Recs _ _
      rw [app_list]; exact Pl.recs_append HRP.out hrq
    have hjs : (p ++ q).size = p.size + q.size := app_size p q
    clear hrq hrl
    go_wp2_with fail
    refine (made_sl a0 a1 len1 cap0 cap1 E R _ (by omega) H0.out H1.out).mono ?_
    rintro e wA ⟨aA, cA, rfl, HA, hbA⟩
    go_wp2_with fail
    refine (zz_any _ _ _ W.heap.size (mades E R len1) (rp ++ rq) HA.out hbA.size HRJ.out ?_ ?_).mono ?_
    · rw [app_size]; omega
    · rw [mades_len]; omega
    rintro e wB ⟨aB, cB, rfl, HB, hbB⟩
    rw [mades_len, List.length_append, ← Nat.add_assoc] at HB
    rw [mades_len, List.length_append, ← Nat.add_assoc]
    have hbAB : Below W.heap.size W wB := hbA.trans hbB
    go_wp2_with fail
    refine (made_sl a0 a1 len1 cap0 cap1 E R _ (by omega) (H0.out.below hbAB) (H1.out.below hbAB)).mono ?_
    rintro e wC ⟨aC, cC, rfl, HC, hbC⟩
    go_wp2_with fail
    refine (zz_any _ p _ wB.heap.size (mades E R len1) rp HC.out hbC.size HRP.out (by omega) (by rw [mades_len]; omega)).mono ?_
    rintro e wD ⟨aD, cD, rfl, HD, hbD⟩
    rw [mades_len] at HD
    rw [mades_len]
    have hll : (mades E R len1 ++ rp.map part).length = len1 + rp.length := by rw [List.length_append, mades_len, List.length_map]
    have HLL : Hid ((mades E R len1 ++ rp.map part).length = len1 + rp.length) := hll
    clear hll
    go_wp2_with fail
    refine (zz_any _ q _ wB.heap.size (mades E R len1 ++ rp.map part) rq HD.out (Nat.le_trans hbC.size hbD.size) HRQ.out (by omega) (by rw [HLL.out]; omega)).mono ?_
    rintro e wE ⟨aE, cE, rfl, HE, hbE⟩
    rw [HLL.out] at HE
    rw [HLL.out]
    have hbBE : Below wB.heap.size wB wE := hbC.trans (hbD.trans hbE)
    have hbWE : Below W.heap.size W wE := hbAB.trans (hbBE.mono hbAB.size)
    have HB' : Hid (Own wE W.heap.size (.slice aB (len1 + rp.length + rq.length) cB) (mades E R len1 ++ (rp ++ rq).map part)) := own_below HB.out hbBE (Nat.le_refl _)
    have PB : Hid (PRow wE aB (len1 + rp.length + rq.length) (eOf (mades E R len1 ++ (rp ++ rq).map part)) (rOf (mades E R len1 ++ (rp ++ rq).map part))) := own_prow HB'.out (by rw [List.length_append, mades_len, List.length_map, List.length_append, Nat.add_assoc])
    have PE : Hid (PRow wE aE (len1 + rp.length + rq.length) (eOf (mades E R len1 ++ (rp ++ rq).map part)) (rOf (mades E R len1 ++ (rp ++ rq).map part))) := by
      have h := HE.out
      rw [List.append_assoc, ← List.map_append] at h
      exact own_prow h (by rw [List.length_append, mades_len, List.length_map, List.length_append, Nat.add_assoc])
    have V0 : Hid (VRow wE a0 len1 (fun i => .string (E i))) := H0.out.below hbWE
    have V1 : Hid (VRow wE a1 len1 (fun i => .int .i64 (R i))) := H1.out.below hbWE
    clear HA HB HC HD HE HB' hbA hbB hbC hbD hbE hbAB hbBE
    go_wp2_with fail
    refine (same_any aB aE (len1 + rp.length + rq.length) cB cE _ _ wE (by omega) PB.out PE.out).mono ?_
    rintro e wF ⟨rfl, hq⟩
    have HQ : Hid (∃ q, wF = wE.drewN q) := hq
    clear hq
    go_wp2_with fail
    refine (starts_any aB a0 a1 (len1 + rp.length + rq.length) cB len1 cap0 cap1 E R wF (by omega) (by omega) (by omega) ?_ ?_ ?_).mono ?_
    · obtain ⟨q, rfl⟩ := HQ.out
      exact (PB.out.le (by omega)).congr (fun i hi => eOf_left E R len1 _ i hi)
    · obtain ⟨q, rfl⟩ := HQ.out
      exact V0.out
    · obtain ⟨q, rfl⟩ := HQ.out
      exact V1.out
    rintro e wG ⟨rfl, q', rfl⟩
    have hbF : Below W.heap.size W (wF.drewN q') := by
      obtain ⟨q, rfl⟩ := HQ.out
      exact below_drewN (below_drewN hbWE q) q'
    go_wp2
    go_ret
    exact ⟨rfl, hbF⟩
  · have e6 : ((len1 : Int) != (len0 : Int)) = true := by rw [bne_iff_ne]; omega
    go_wp2
    go_ret
    exact ⟨rfl, Below.refl _ _⟩
end fnUnpackPartOfJoinedPackings
end Go.Proofs.Qxb6619857a
