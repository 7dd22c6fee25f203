import Derived.Test.Qxb6617374aBase
namespace Go.Proofs.Qxb6617374a
open Go.RowKit

/-- a slice of rows -/
def HRow (w : World) (a : Option Addr) (n c : Nat) (A : Nat → Option Addr) (L C : Nat → Nat) (X : Nat → Nat → Int) : Prop :=
  SRow w a n c (fun i => .slice (A i) (L i) (C i)) ∧ ∀ i, i < n → SRow w (A i) (L i) (C i) (fun j => .int .u64 (X i j))
theorem HRow.below {W w' : World} {B : Nat} {a : Option Addr} {n c : Nat} {A : Nat → Option Addr} {L C : Nat → Nat} {X : Nat → Nat → Int} (h : HRow W a n c A L C X) (hb : Below B W w') (hB : W.heap.size ≤ B) : HRow w' a n c A L C X :=
  ⟨h.1.below hb hB, fun i hi => (h.2 i hi).below hb hB⟩
/-- a row that does not lie in block g -/
def NRow (w : World) (g : Nat) (a : Option Addr) (n c : Nat) (V : Nat → Value) : Prop := SRow w a n c V ∧ ∀ ad, a = some ad → ad.block ≠ g
theorem NRow.below {W w' : World} {B g : Nat} {a : Option Addr} {n c : Nat} {V : Nat → Value} (h : NRow W g a n c V) (hb : Below B W w') (hB : W.heap.size ≤ B) : NRow w' g a n c V := ⟨h.1.below hb hB, h.2⟩
theorem NRow.set {w : World} {g o : Nat} {u : Value} {a : Option Addr} {n c : Nat} {V : Nat → Value} (h : NRow w g a n c V) : NRow (w.setCell ⟨g, o, none⟩ u) g a n c V := by
  refine ⟨⟨h.1.1, h.1.2.1, fun h0 => ?_⟩, h.2⟩
  obtain ⟨b, off, e, hlt, hc⟩ := h.1.2.2 h0
  have hne := h.2 _ e
  refine ⟨b, off, e, by simpa [World.setCell] using hlt, fun i hi => ?_⟩
  have := hc i hi
  rw [World.cell?_of_block (w := w) (Below.heap_setCell w ⟨g, o, none⟩ u b hne)]
  exact this
/-- the clone of the first k rows -/
def Part (w : World) (g n k : Nat) (L : Nat → Nat) (X : Nat → Nat → Int) (A : Nat → Option Addr) (C : Nat → Nat) : Prop :=
  w.rowIs g 35 n (fun i => if i < k then .slice (A i) (L i) (C i) else .slice none 0 0) ∧ ∀ i, i < k → NRow w g (A i) (L i) (C i) (fun j => .int .u64 (X i j))
theorem Part.below {w w' : World} {B g n k : Nat} {L : Nat → Nat} {X : Nat → Nat → Int} {A : Nat → Option Addr} {C : Nat → Nat} (h : Part w g n k L X A C) (hb : Below B w w') (hB : w.heap.size ≤ B) : Part w' g n k L X A C :=
  ⟨h.1.of_block (hb.block g (by have := h.1.lt; omega)), fun i hi => (h.2 i hi).below hb hB⟩
/-- one row more: nil -/
theorem Part.nil {w : World} {g n k : Nat} {L : Nat → Nat} {X : Nat → Nat → Int} {A : Nat → Option Addr} {C : Nat → Nat} (h : Part w g n k L X A C) (hL : L k = 0) :
    Part w g n (k + 1) L X (fun i => if i = k then none else A i) (fun i => if i = k then 0 else C i) := by
  refine ⟨h.1.congr (fun i hi => ?_), fun i hi => ?_⟩
  · by_cases e : i = k
    · subst e; simp [hL]
    · by_cases e2 : i < k
      · simp [e, e2, Nat.lt_succ_of_lt e2]
      · rw [if_neg e2, if_neg (by omega)]
  · by_cases e : i = k
    · subst e
      simp only [if_true, hL]
      exact ⟨⟨.inl ⟨rfl, rfl, rfl⟩, Nat.zero_le _, fun h => absurd h (by omega)⟩, fun ad h => by simp at h⟩
    · simp only [if_neg e]
      exact h.2 i (by omega)
/-- one row more: a new one, stored -/
theorem Part.push {w : World} {g n k b : Nat} {L : Nat → Nat} {X : Nat → Nat → Int} {A : Nat → Option Addr} {C : Nat → Nat} (h : Part w g n k L X A C) (hgb : b ≠ g)
    (hv : VRow w (some ⟨b, 0, none⟩) (L k) (fun j => .int .u64 (X k j))) :
    Part (w.setCell ⟨g, k, none⟩ (.slice (some ⟨b, 0, none⟩) (L k) (L k))) g n (k + 1) L X (fun i => if i = k then some ⟨b, 0, none⟩ else A i) (fun i => if i = k then L k else C i) := by
  refine ⟨(h.1.set k _).congr (fun i hi => ?_), fun i hi => ?_⟩
  · by_cases e : i = k
    · subst e; simp
    · by_cases e2 : i < k
      · simp [e, e2, Nat.lt_succ_of_lt e2]
      · rw [if_neg e, if_neg e2, if_neg (by omega)]
  · by_cases e : i = k
    · subst e
      simp only [if_true]
      refine NRow.set ⟨⟨.inr ⟨_, rfl⟩, hv⟩, fun ad h => ?_⟩
      simp only [Option.some.injEq] at h
      subst h; exact hgb
    · simp only [if_neg e]
      exact (h.2 i (by omega)).set
theorem Part.all {w : World} {g n : Nat} {L : Nat → Nat} {X : Nat → Nat → Int} {A : Nat → Option Addr} {C : Nat → Nat} (hn : n ≤ maxLen) (h : Part w g n n L X A C) : HRow w (some ⟨g, 0, none⟩) n n A L C X :=
  ⟨⟨.inr ⟨_, rfl⟩, row_vrow hn (h.1.congr (fun i hi => by rw [if_pos hi]))⟩, fun i hi => (h.2 i hi).1⟩

/-! ### zzCloneRows -/
set_option maxHeartbeats 400000 in
theorem rows_nil (w : World) : Calls Try.prog 7 #[.slice none 0 0] w fun e w' => e = .returned (.slice none 0 0) ∧ w' = w := by
  have hnil := fun wx => Lib.run_eql_slice_nil (P := Try.prog) wx 23 35 none 0 0 0 0 Try.underlying23
  go_enter Try.func7, Try.ntmps7
  go_wp2
  go_ret
  exact ⟨rfl, rfl⟩

set_option maxRecDepth 20000 in
set_option maxHeartbeats 1000000 in
theorem rows_row (ad : Addr) (n c : Nat) (A : Nat → Option Addr) (L C : Nat → Nat) (X : Nat → Nat → Int) (w : World) (hn : n ≤ 1048576) (hL : ∀ i, i < n → L i ≤ 1048576) (h : HRow w (some ad) n c A L C X) :
    Calls Try.prog 7 #[.slice (some ad) n c] w fun e w' => e = .returned (.slice (some ⟨w.heap.size, 0, none⟩) n n) ∧ (∃ A' C', HRow w' (some ⟨w.heap.size, 0, none⟩) n n A' L C' X) ∧ Below w.heap.size w w' := by
  have hnil := fun wx => Lib.run_eql_slice_nil (P := Try.prog) wx 23 35 (some ad) n c 0 0 Try.underlying23
  have hneq := fun wx a l c => run_neq_slice_nil_any (P := Try.prog) wx 35 37 a l c 0 0 Try.underlying35
  have hmk := run_make_row' (P := Try.prog) 23 35 (.slice none 0 0) 24 Try.underlying23 Try.info35 rfl .i64 .i64 n (by omega) (by omega)
  have H : Hid (HRow w (some ad) n c A L C X) := h
  have HL : Hid (∀ i, i < n → L i ≤ 1048576) := hL
  clear h hL
  go_enter Try.func7, Try.ntmps7
  go_wp2
  go_loopw [4] (fun i wr => ∃ k : Nat, k ≤ n ∧ i = .int .i64 k ∧ (∃ A' C', Hid (Part wr w.heap.size n k L X A' C')) ∧ Below w.heap.size w wr) (fun i _ => n - (intOf i).toNat)
  case atStart => exact ⟨0, Nat.zero_le _, rfl, ⟨fun _ => none, fun _ => 0, (World.rowIs_made w (.slice none 0 0) n 35).congr (fun i _ => by simp), fun i hi => by omega⟩, (Below.refl _ _).alloc (Nat.le_refl _) _⟩
  case round =>
    obtain ⟨k, hk, rfl, ⟨A', C', HP⟩, hbel⟩ := hrel
    clear hmk hnil
    by_cases hlt : k < n
    · obtain ⟨b, off, e, hb, hc⟩ := H.out.1.2.2 (by omega)
      simp only [Option.some.injEq] at e
      subst e
      have g1 : wr.cell? ⟨b, off + k, none⟩ = some (.slice (A k) (L k) (C k)) := by rw [hbel.cell (by exact hb)]; exact hc k hlt
      have i1 : (k : Int) < (n : Int) := by omega
      have hin := H.out.2 k hlt
      have hLk := HL.out k hlt
      have hgs := HP.out.1.lt
      rcases hin.1 with ⟨hA, hL0, hC⟩ | ⟨ad, hA⟩
      · rw [hA, hL0, hC] at g1
        have HN : Hid (Part wr w.heap.size n (k + 1) L X (fun i => if i = k then none else A' i) (fun i => if i = k then 0 else C' i)) := HP.out.nil hL0
        clear hc hin hA hL0 hC hLk
        go_wp2
        go_roundw
        case rel => exact ⟨k + 1, by omega, by go_num, ⟨_, _, HN⟩, hbel⟩
        case measure => simp [intOf]; omega
      · rw [hA] at g1
        have HI : Hid (VRow w (some ad) (L k) (fun j => .int .u64 (X k j))) := by have := hin.2; rw [hA] at this; exact this
        clear hc hin hA
        generalize hlk : L k = lk at *
        have HLK : Hid (L k = lk) := hlk
        clear hlk
        have hmk := run_make_row' (P := Try.prog) 35 37 (.int .u64 0) 8 Try.underlying35 Try.info37 rfl .i64 .i64 lk (by omega) (by omega)
        obtain ⟨wo, hwo⟩ : ∃ wo, wo = wr := ⟨wr, rfl⟩
        subst hwo
        have hws := hbel.size
        go_wp2
        go_loopw [6] (fun j wr => ∃ m : Nat, m ≤ lk ∧ j = .int .i64 m ∧ Hid (wr.rowIs wo.heap.size 37 lk (fun t => if t < m then .int .u64 (X k t) else .int .u64 0)) ∧ Below wo.heap.size wo wr) (fun j _ => lk - (intOf j).toNat)
        case atStart => exact ⟨0, Nat.zero_le _, rfl, (World.rowIs_made wo (.int .u64 0) lk 37).congr (fun i _ => by simp), (Below.refl _ _).alloc (Nat.le_refl _) _⟩
        case round =>
          obtain ⟨m, hm, rfl, HR, hbi⟩ := hrel
          clear hmk
          have g2 : wr.cell? ⟨b, off + k, none⟩ = some (.slice (some ad) lk (C k)) := by rw [hbi.cell (by show b < _; omega)]; exact g1
          have hbwi : Below w.heap.size w wr := hbel.trans (hbi.mono hws)
          by_cases hml : m < lk
          · obtain ⟨b2, o2, e2, hb2, hc2⟩ := HI.out.2 (by omega)
            simp only [Option.some.injEq] at e2
            subst e2
            have g3 : wr.cell? ⟨b2, o2 + m, none⟩ = some (.int .u64 (X k m)) := by rw [hbwi.cell (by exact hb2)]; exact hc2 m hml
            have g4 := HR.out.cell hml
            rw [if_neg (by omega)] at g4
            have f4 := HR.out.frozen m
            have i2 : (m : Int) < (lk : Int) := by omega
            have HN : Hid ((wr.setCell ⟨wo.heap.size, m, none⟩ (.int .u64 (X k m))).rowIs wo.heap.size 37 lk (fun t => if t < m + 1 then .int .u64 (X k t) else .int .u64 0)) := (HR.out.set m (.int .u64 (X k m))).congr (fun j _ => by
              by_cases e : j = m
              · subst e; simp
              · by_cases e2 : j < m
                · simp [e, e2, Nat.lt_succ_of_lt e2]
                · rw [if_neg e, if_neg e2, if_neg (by omega)])
            clear hc2 HR g1 hbwi
            go_wp2
            go_roundw
            case rel => exact ⟨m + 1, by omega, by go_num, HN, hbi.setCell (Nat.le_refl _) _⟩
            case measure => simp [intOf]; omega
          · have HV : Hid (VRow wr (some ⟨wo.heap.size, 0, none⟩) lk (fun j => .int .u64 (X k j))) := row_vrow (by unfold maxLen; omega) (HR.out.congr (fun j hj => by rw [if_pos (by omega)]))
            have HP2 : Hid (Part wr w.heap.size n k L X A' C') := HP.out.below hbi (Nat.le_refl _)
            have HN : Hid (Part (wr.setCell ⟨w.heap.size, k, none⟩ (.slice (some ⟨wo.heap.size, 0, none⟩) lk lk)) w.heap.size n (k + 1) L X (fun i => if i = k then some ⟨wo.heap.size, 0, none⟩ else A' i) (fun i => if i = k then L k else C' i)) := by
              have := HP2.out.push (b := wo.heap.size) (by omega) (by rw [HLK.out]; exact HV.out)
              rw [HLK.out] at this
              show Part _ _ _ _ _ _ _ _
              rw [HLK.out]
              exact this
            have g5 := HP2.out.1.cell hlt
            rw [if_neg (by omega)] at g5
            have f5 := HP2.out.1.frozen k
            clear HR g1
            go_wp2
            go_roundw
            case rel => exact ⟨k + 1, by omega, by go_num, ⟨_, _, HN⟩, hbwi.setCell (Nat.le_refl _) _⟩
            case measure => simp [intOf]; omega
    · obtain rfl : k = n := by omega
      have HF : Hid (HRow wr (some ⟨w.heap.size, 0, none⟩) k k A' L C' X) := HP.out.all (by unfold maxLen; omega)
      go_wp2
      go_ret
      exact ⟨rfl, ⟨_, _, HF.out⟩, hbel⟩

theorem rows_any (a : Option Addr) (n c : Nat) (A : Nat → Option Addr) (L C : Nat → Nat) (X : Nat → Nat → Int) (w : World) (hn : n ≤ 1048576) (hL : ∀ i, i < n → L i ≤ 1048576) (h : HRow w a n c A L C X) :
    Calls Try.prog 7 #[.slice a n c] w fun e w' => ∃ a' c', e = .returned (.slice a' n c') ∧ Hid (∃ A' C', HRow w' a' n c' A' L C' X) ∧ Below w.heap.size w w' := by
  rcases h.1.1 with ⟨rfl, rfl, rfl⟩ | ⟨ad, rfl⟩
  · refine (rows_nil w).mono ?_
    rintro e w' ⟨rfl, rfl⟩
    exact ⟨none, 0, rfl, ⟨_, _, h⟩, Below.refl _ _⟩
  · refine (rows_row ad n c A L C X w hn hL h).mono ?_
    rintro e w' ⟨rfl, hv, hb⟩
    exact ⟨_, _, rfl, hv, hb⟩
end Go.Proofs.Qxb6617374a
