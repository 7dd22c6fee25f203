import Derived.Test.Qxb6619857aPacked
namespace Go.Proofs.Qxb6619857a
open Go.RowKit

/-- what b1Records answers: no, or the number of records and of their bytes -/
def RecAns (l : List UInt8) (v : Value) : Prop :=
  v = .tuple #[.int .i64 0, .int .i64 0, .bool false] ∨ ∃ rs, Pl.Recs rs l ∧ v = .tuple #[.int .i64 (rs.length : Int), .int .i64 (Pl.sumLen rs : Int), .bool true]

theorem uv_drop {l : List UInt8} {i : Nat} {y : Int × List UInt8} (hi : i ≤ l.length) (h : Pl.uv (l.drop i) = some y) :
    ∃ m, i < m ∧ m ≤ l.length ∧ Pl.uv (l.drop i) = some (y.1, l.drop m) ∧ 0 ≤ y.1 ∧ y.1 ≤ 18446744073709551615 := by
  obtain ⟨a, r⟩ := y
  obtain ⟨⟨m, e, h0, hm⟩, hb⟩ := Pl.uvGo_some h
  rw [List.drop_drop] at e
  simp at hm
  exact ⟨i + m, by omega, by omega, by rw [h, e], hb⟩

set_option maxRecDepth 20000 in
set_option maxHeartbeats 1000000 in
theorem records_any (s : ByteArray) (w : World) (hs : s.size ≤ 1048576) :
    Calls Try.prog 8 #[.string s] w fun e w' => ∃ v, e = .returned v ∧ RecAns s.data.toList v ∧ w' = w := by
  have HL : Hid (s.data.toList.length = s.size) := by show s.data.toList.length = s.size; simp
  go_enter Try.func8, Try.ntmps8
  go_wp2
  go_loop [5, 6, 7] (fun c b i => ∃ (k : Nat) (done : List (Int × List UInt8)), k ≤ s.size ∧ i = .int .i64 k ∧ c = .int .i64 (done.length : Int) ∧ b = .int .i64 (Pl.sumLen done : Int) ∧ Pl.Sofar s.data.toList done k) (fun _ _ i => s.size - (intOf i).toNat)
  case atStart => exact ⟨0, [], Nat.zero_le _, rfl, rfl, rfl, Pl.sofar_start _⟩
  case round =>
    obtain ⟨k, done, hk, rfl, rfl, rfl, hsf⟩ := hrel
    have hbd := hsf.2
    have HS : Hid (Pl.Sofar s.data.toList done k) := hsf
    clear hsf
    generalize hcn : done.length = cn at *
    generalize hbn : Pl.sumLen done = bn at *
    have HC : Hid (done.length = cn) := hcn
    have HB : Hid (Pl.sumLen done = bn) := hbn
    clear hcn hbn
    by_cases hlt : k < s.size
    · cases hu : Pl.uv (s.data.toList.drop k) with
      | none =>
        have HU : Hid (Pl.uv (s.data.toList.drop k) = none) := hu
        clear hu
        go_wp2_with fail
        refine (uvarint_any s k _ hs hk).mono ?_
        rintro e w' ⟨rfl, rfl⟩
        rw [uvAns_none HU.out]
        go_wp2
        go_ret3
        exact ⟨_, rfl, .inl rfl, rfl⟩
      | some y =>
        obtain ⟨m1, h1, h2, h3, _, _⟩ := uv_drop (by rw [HL.out]; exact hk) hu
        rw [HL.out] at h2
        have HU : Hid (Pl.uv (s.data.toList.drop k) = some (y.1, s.data.toList.drop m1)) := h3
        clear hu h3
        generalize y.1 = a at *
        clear y
        cases hu2 : Pl.uv (s.data.toList.drop m1) with
        | none =>
          have HU2 : Hid (Pl.uv (s.data.toList.drop m1) = none) := hu2
          clear hu2
          go_wp2_with fail
          refine (uvarint_any s k _ hs hk).mono ?_
          rintro e w' ⟨rfl, rfl⟩
          rw [uvAns_some (by rw [HL.out]; exact h2) HU.out]
          go_wp2_with fail
          refine (uvarint_any s m1 _ hs h2).mono ?_
          rintro e w' ⟨rfl, rfl⟩
          rw [uvAns_none HU2.out]
          go_wp2
          go_ret3
          exact ⟨_, rfl, .inl rfl, rfl⟩
        | some z =>
          obtain ⟨m2, g1, g2, g3, g4, g5⟩ := uv_drop (by rw [HL.out]; exact h2) hu2
          rw [HL.out] at g2
          have HU2 : Hid (Pl.uv (s.data.toList.drop m1) = some (z.1, s.data.toList.drop m2)) := g3
          clear hu2 g3
          generalize z.1 = n at *
          clear z
          have e1 : IntKind.u64.wrap ((s.size : Int) - (m2 : Int)) = (s.size : Int) - (m2 : Int) := by rw [IntKind.wrap_u64]; omega
          by_cases hn : (s.size : Int) - (m2 : Int) < n
          · go_wp2_with fail
            refine (uvarint_any s k _ hs hk).mono ?_
            rintro e w' ⟨rfl, rfl⟩
            rw [uvAns_some (by rw [HL.out]; exact h2) HU.out]
            go_wp2_with fail
            refine (uvarint_any s m1 _ hs h2).mono ?_
            rintro e w' ⟨rfl, rfl⟩
            rw [uvAns_some (by rw [HL.out]; exact g2) HU2.out]
            go_wp2
            go_ret3
            exact ⟨_, rfl, .inl rfl, rfl⟩
          · obtain ⟨nn, rfl⟩ : ∃ nn : Nat, n = (nn : Int) := ⟨n.toNat, by omega⟩
            have hst := Pl.sofar_step HS.out HU.out h1 HU2.out rfl g1 (show m2 + nn ≤ s.data.toList.length by rw [HL.out]; omega)
            have HT : Hid (Pl.Sofar s.data.toList (done ++ [(a, (s.data.toList.drop m2).take nn)]) (m2 + nn)) := hst
            have l1 : (done ++ [(a, (s.data.toList.drop m2).take nn)]).length = cn + 1 := by rw [List.length_append, HC.out]; rfl
            have l2 : Pl.sumLen (done ++ [(a, (s.data.toList.drop m2).take nn)]) = bn + nn := by
              rw [Pl.sumLen_append, HB.out]
              simp [Pl.sumLen]
              omega
            have L1 : Hid ((done ++ [(a, (s.data.toList.drop m2).take nn)]).length = cn + 1) := l1
            have L2 : Hid (Pl.sumLen (done ++ [(a, (s.data.toList.drop m2).take nn)]) = bn + nn) := l2
            have e2 : IntKind.i64.wrap (nn : Int) = (nn : Int) := by rw [IntKind.wrap_i64]; omega
            clear hst l1 l2
            go_wp2_with fail
            refine (uvarint_any s k _ hs hk).mono ?_
            rintro e w' ⟨rfl, rfl⟩
            rw [uvAns_some (by rw [HL.out]; exact h2) HU.out]
            go_wp2_with fail
            refine (uvarint_any s m1 _ hs h2).mono ?_
            rintro e w' ⟨rfl, rfl⟩
            rw [uvAns_some (by rw [HL.out]; exact g2) HU2.out]
            go_wp2
            go_round
            case rel => exact ⟨m2 + nn, _, by omega, by go_num, by rw [L1.out]; go_num, by rw [L2.out]; go_num, HT.out⟩
            case measure => simp [intOf]; omega
    · have HR : Hid (Pl.Recs done s.data.toList) := Pl.sofar_end HS.out (by rw [HL.out]; omega)
      go_wp2
      go_ret3
      exact ⟨_, rfl, .inr ⟨done, HR.out, by rw [HC.out, HB.out]; rfl⟩, rfl⟩
end Go.Proofs.Qxb6619857a
