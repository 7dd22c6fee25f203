import Derived.Test.Qxb6617374aResultNan
namespace Go.Proofs.Qxb6617374a
open Go.RowKit
attribute [local go_sem] run_store_float set_set

/-- what 'result' is told -/
structure Told (w : World) (tb : Nat) (nodes rounds pairs bytes all : Int) (fb : Nat) (ac ad : Option Addr) (nc cc nd cd : Nat) (D : Nat → Int) : Prop where
  lt : tb < w.heap.size
  cells : Tally w tb nodes rounds pairs bytes fb ac ad nc cc nd cd
  row : VRow w ad nd (fun i => .int .i64 (D i))
theorem Told.below {W w : World} {B tb : Nat} {nodes rounds pairs bytes all : Int} {fb : Nat} {ac ad : Option Addr} {nc cc nd cd : Nat} {D : Nat → Int}
    (h : Told W tb nodes rounds pairs bytes all fb ac ad nc cc nd cd D) (hb : Below B W w) (hB : W.heap.size ≤ B) : Told w tb nodes rounds pairs bytes all fb ac ad nc cc nd cd D := by
  have hl := h.lt
  obtain ⟨c0, c1, c2, c5, c6, c7, c8⟩ := h.cells
  have hc : ∀ o, w.cell? ⟨tb, o, none⟩ = W.cell? ⟨tb, o, none⟩ := fun o => hb.cell (by show tb < B; omega)
  exact ⟨by have := hb.size; omega, ⟨by rw [hc]; exact c0, by rw [hc]; exact c1, by rw [hc]; exact c2, by rw [hc]; exact c5, by rw [hc]; exact c6, by rw [hc]; exact c7, by rw [hc]; exact c8⟩, h.row.below hb hB⟩

/-- the bounds that the domain gives -/
structure Bds (nodes rounds pairs bytes all : Int) (nc nd : Nat) (D : Nat → Int) : Prop where
  b1 : 1 ≤ rounds
  b2 : rounds ≤ 1073741824
  b3 : 0 ≤ bytes
  b4 : bytes ≤ 1152921504606846976
  hall : nodes * (nc : Int) = all
  b5 : 0 ≤ all
  b6 : all ≤ 16777216
  b7 : 0 ≤ pairs
  b8 : pairs ≤ all
  b9 : nd ≤ 131072
  hdb : ∀ i, i < nd → 0 ≤ D i ∧ D i ≤ 1073741824

theorem result_any (tb : Nat) (nodes rounds pairs bytes all : Int) (fb : Nat) (ac ad : Option Addr) (nc cc nd cd : Nat) (s : ByteArray) (D : Nat → Int) (w : World)
    (hT : Told w tb nodes rounds pairs bytes all fb ac ad nc cc nd cd D) (hB : Bds nodes rounds pairs bytes all nc nd D) :
    Calls Try.prog 12 #[.pointer (some ⟨tb, 0, none⟩), .string s] w fun e w' => ∃ v, e = .returned v ∧ ROk v s nodes rounds pairs bytes all nc nd fb D ∧ Below w.heap.size w w' := by
  cases h : FloatKind.f64.format.div fb (floatOfInt .f64 rounds) with
  | some r => exact result_some tb nodes rounds pairs bytes all fb ac ad nc cc nd cd s D w r (fun w => run_float_arith w .quo 24 .f64 fb _ r h) (.inl h) hT.lt hT.cells hT.row hB.b1 hB.b2 hB.b3 hB.b4 hB.hall hB.b5 hB.b6 hB.b7 hB.b8 hB.b9 hB.hdb
  | none => exact result_nan tb nodes rounds pairs bytes all fb ac ad nc cc nd cd s D w h hT.lt hT.cells hT.row hB.b1 hB.b2 hB.b3 hB.b4 hB.hall hB.b5 hB.b6 hB.b7 hB.b8 hB.b9 hB.hdb

set_option maxRecDepth 20000 in
set_option maxHeartbeats 1000000 in
theorem zz_any (tb : Nat) (nodes rounds pairs bytes all : Int) (fb : Nat) (ac ad : Option Addr) (nc cc nd cd : Nat) (s : ByteArray) (D : Nat → Int) (w : World)
    (hT : Told w tb nodes rounds pairs bytes all fb ac ad nc cc nd cd D) (hB : Bds nodes rounds pairs bytes all nc nd D) :
    Calls Try.prog 9 #[.pointer (some ⟨tb, 0, none⟩), .string s] w fun e w' => ∃ v, e = .returned v ∧ ROk v s nodes rounds pairs bytes all nc nd fb D ∧ Below w.heap.size w w' := by
  have HT : Hid (Told w tb nodes rounds pairs bytes all fb ac ad nc cc nd cd D) := hT
  have HB : Hid (Bds nodes rounds pairs bytes all nc nd D) := hB
  clear hT hB
  go_enter Try.func9, Try.ntmps9
  go_wp2_with fail
  refine (result_any tb nodes rounds pairs bytes all fb ac ad nc cc nd cd s D _ (HT.out.below ((Below.refl w.heap.size _).alloc (Nat.le_refl _) _) (Nat.le_refl _)) HB.out).mono ?_
  rintro e w2 ⟨v, rfl, hv, hb⟩
  obtain ⟨r, d, dl, hva, hrest⟩ := hv
  have HV : Hid (ROk v s nodes rounds pairs bytes all nc nd fb D) := ⟨r, d, dl, hva, hrest⟩
  clear hrest
  have hc : ∀ b o, b < w.heap.size + 1 → w2.cell? ⟨b, o, none⟩ = (w.alloc (.cells #[.string { data := #[] }, .int .i64 0, .int .i64 0, .int .i64 0, .int .i64 0, .float .f64 0, .int .i64 0, .int .i64 0] 32)).cell? ⟨b, o, none⟩ := fun b o h => hb.cell (by simpa using h)
  have hfz : ∀ b o, b < w.heap.size + 1 → w2.frozen? ⟨b, o, none⟩ = (w.alloc (.cells #[.string { data := #[] }, .int .i64 0, .int .i64 0, .int .i64 0, .int .i64 0, .float .f64 0, .int .i64 0, .int .i64 0] 32)).frozen? ⟨b, o, none⟩ := fun b o h => hb.frozen (by simpa using h)
  have hbF : Below w.heap.size w w2 := ((Below.refl w.heap.size w).alloc (Nat.le_refl _) _).trans (hb.mono (by simp))
  rw [hva] at HV
  rw [hva]
  clear hva hb
  go_wp2
  exact bodyPost_ret (v := .agg #[.string s, .int .i64 nodes, .int .i64 rounds, .int .i64 (nc : Int), .int .i64 ((2 * bytes + rounds) / (2 * rounds)), .float .f64 r, .int .i64 d, .int .i64 dl]) (by simp [results, Try.results9, go_sem, hc]) rfl
    ⟨_, rfl, HV.out, below8 hbF (Nat.le_refl _) _ _ _ _ _ _ _ _⟩

set_option maxRecDepth 20000 in
set_option maxHeartbeats 1000000 in
theorem make_any (nodes rounds pairs bytes seen all : Int) (fb : Nat) (ac ah ao ad : Option Addr) (nc cc nh ch no co nd cd : Nat) (D : Nat → Int) (w : World) (hD : VRow w ad nd (fun i => .int .i64 (D i))) :
    Calls Try.prog 8 #[.int .i64 nodes, .int .i64 rounds, .slice ac nc cc, .slice ah nh ch, .slice ao no co, .int .i64 pairs, .slice ad nd cd, .int .i64 bytes, .float .f64 fb, .int .i64 seen] w
      fun e w' => e = .returned (.pointer (some ⟨w.heap.size, 0, none⟩)) ∧ Hid (Told w' w.heap.size nodes rounds pairs bytes all fb ac ad nc cc nd cd D) ∧ Below w.heap.size w w' := by
  have HD : Hid (VRow w ad nd (fun i => .int .i64 (D i))) := hD
  clear hD
  go_enter Try.func8, Try.ntmps8
  go_wp2
  go_ret
  have hb : Below w.heap.size w (w.alloc (.cells #[.int .i64 nodes, .int .i64 rounds, .slice ac nc cc, .slice ah nh ch, .slice ao no co, .int .i64 pairs, .slice ad nd cd, .int .i64 bytes, .float .f64 fb, .int .i64 seen] 39)) := (Below.refl _ _).alloc (Nat.le_refl _) _
  exact ⟨rfl, ⟨by simp, ⟨by simp, by simp, by simp, by simp, by simp, by simp, by simp⟩, HD.out.below hb (Nat.le_refl _)⟩, hb⟩
end Go.Proofs.Qxb6617374a
