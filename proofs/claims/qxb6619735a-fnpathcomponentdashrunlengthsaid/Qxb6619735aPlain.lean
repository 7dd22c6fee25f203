namespace Go.Proofs.Qxb6619735a.Pl

/-- a byte of the run alphabet -/
def al (c : UInt8) : Bool := (97 ≤ c && c ≤ 122) || (48 ≤ c && c ≤ 57)

/-- one byte's step: 0 a run must begin; 1 in a run; 2 behind one underscore; 3 in dashes; 4 lost -/
def st (q : Nat) (c : UInt8) : Nat :=
  if q = 4 then 4
  else if al c then 1
  else if q = 1 then (if c = 46 then 0 else if c = 95 then 2 else if c = 45 then 3 else 4)
  else if q = 2 then (if c = 95 then 0 else 4)
  else if q = 3 then (if c = 45 then 3 else 4)
  else 4

def run (q : Nat) (l : List UInt8) : Nat := l.foldl st q
def acc (l : List UInt8) : Bool := run 0 l == 1

theorem st_dead (c : UInt8) : st 4 c = 4 := by simp [st]
theorem run_dead (l : List UInt8) : run 4 l = 4 := by
  induction l with
  | nil => rfl
  | cons c r ih => simp only [run, List.foldl_cons, st_dead] at *; exact ih
theorem run_cons (q : Nat) (c : UInt8) (l : List UInt8) : run q (c :: l) = run (st q c) l := rfl
theorem run_append (q : Nat) (a b : List UInt8) : run q (a ++ b) = run (run q a) b := by simp [run]
theorem st_lt (q : Nat) (c : UInt8) : st q c ≤ 4 := by
  unfold st; repeat' split
  all_goals omega
theorem run_le (l : List UInt8) (q : Nat) (h : q ≤ 4) : run q l ≤ 4 := by
  induction l generalizing q with
  | nil => exact h
  | cons c r ih => exact ih _ (st_lt q c)

theorem al_dot : al 46 = false := by decide
theorem al_us : al 95 = false := by decide
theorem al_da : al 45 = false := by decide

theorem dot_cut (a b : List UInt8) : acc (a ++ [46] ++ b) = (acc a && acc b) := by
  have h : ∀ q, q ≤ 4 → run q (46 :: b) = if q = 1 then run 0 b else 4 := by
    intro q hq
    rw [run_cons]
    have : st q 46 = if q = 1 then 0 else 4 := by
      unfold st; rw [al_dot]
      match q, hq with
      | 0, _ => decide
      | 1, _ => decide
      | 2, _ => decide
      | 3, _ => decide
      | 4, _ => decide
    rw [this]; split
    · rfl
    · exact run_dead b
  have ha := run_le a 0 (by omega)
  unfold acc
  rw [List.append_assoc, run_append, List.singleton_append, h _ ha]
  by_cases hq : run 0 a = 1 <;> simp [hq]

theorem three_us (a b : List UInt8) : acc (a ++ [95, 95, 95] ++ b) = false := by
  have h : ∀ q, q ≤ 4 → run q (95 :: 95 :: 95 :: b) = 4 := by
    intro q hq
    rw [run_cons, run_cons, run_cons]
    have : st (st (st q 95) 95) 95 = 4 := by
      match q, hq with
      | 0, _ => decide
      | 1, _ => decide
      | 2, _ => decide
      | 3, _ => decide
      | 4, _ => decide
    rw [this, run_dead]
  have ha := run_le a 0 (by omega)
  unfold acc
  rw [List.append_assoc, run_append]
  show (run (run 0 a) (95 :: 95 :: 95 :: b) == 1) = false
  rw [h _ ha]; rfl

theorem da_da (q : Nat) (hq : q ≤ 4) : st (st q 45) 45 = st q 45 := by
  match q, hq with
  | 0, _ => decide
  | 1, _ => decide
  | 2, _ => decide
  | 3, _ => decide
  | 4, _ => decide

theorem run_dashes (k : Nat) (q : Nat) (hq : q ≤ 4) : run q (List.replicate (k + 1) 45) = st q 45 := by
  induction k generalizing q with
  | zero => rfl
  | succ k ih => rw [List.replicate_succ, run_cons, ih _ (st_lt _ _), da_da q hq]

theorem dash_run (a b : List UInt8) (k : Nat) (hk : 1 ≤ k) : acc (a ++ List.replicate k 45 ++ b) = acc (a ++ [45] ++ b) := by
  obtain ⟨k, rfl⟩ : ∃ j, k = j + 1 := ⟨k - 1, by omega⟩
  unfold acc
  rw [run_append, run_append, run_append, run_append, run_dashes k _ (run_le a 0 (by omega))]
  rfl

/-- every byte of the run alphabet -/
def allAl (l : List UInt8) : Bool := !l.isEmpty && l.all al

theorem run_al (l : List UInt8) (h : l.all al = true) (q : Nat) (hq : q ≠ 4) (hl : l ≠ []) : run q l = 1 := by
  induction l generalizing q with
  | nil => exact absurd rfl hl
  | cons c r ih =>
    simp only [List.all_cons, Bool.and_eq_true] at h
    rw [run_cons]
    have : st q c = 1 := by simp [st, hq, h.1]
    rw [this]
    by_cases hr : r = []
    · subst hr; rfl
    · exact ih h.2 1 (by omega) hr

theorem acc_al (l : List UInt8) (h : allAl l = true) : acc l = true := by
  simp only [allAl, Bool.and_eq_true, Bool.not_eq_true', List.isEmpty_eq_false_iff] at h
  simp [acc, run_al l h.2 0 (by omega) h.1]

theorem dash_al (a b : List UInt8) (ha : allAl a = true) (hb : allAl b = true) : acc (a ++ [45] ++ b) = true := by
  simp only [allAl, Bool.and_eq_true, Bool.not_eq_true', List.isEmpty_eq_false_iff] at ha hb
  unfold acc
  rw [run_append, run_append, run_al a ha.2 0 (by omega) ha.1]
  show (run (st 1 45) b == 1) = true
  rw [show st 1 45 = 3 from by decide, run_al b hb.2 3 (by omega) hb.1]; rfl

/-! ### the same by what is left of the text -/
def accq (q : Nat) (l : List UInt8) : Bool := run q l == 1
theorem acc_eq (l : List UInt8) : acc l = accq 0 l := rfl
theorem accq_nil (q : Nat) : accq q [] = (q == 1) := rfl
theorem accq_cons (q : Nat) (c : UInt8) (l : List UInt8) : accq q (c :: l) = accq (st q c) l := rfl
theorem accq_dead (l : List UInt8) : accq 4 l = false := by unfold accq; rw [run_dead]; rfl
theorem drop_at (l : List UInt8) (k : Nat) (h : k < l.length) : l.drop k = l[k] :: l.drop (k + 1) := List.drop_eq_getElem_cons h
theorem accq_at (q : Nat) (l : List UInt8) (k : Nat) (h : k < l.length) : accq q (l.drop k) = accq (st q l[k]) (l.drop (k + 1)) := by
  rw [drop_at l k h, accq_cons]
theorem accq_end (q : Nat) (l : List UInt8) (k : Nat) (h : l.length ≤ k) : accq q (l.drop k) = (q == 1) := by
  rw [List.drop_of_length_le h, accq_nil]
theorem st_al (q : Nat) (c : UInt8) (hq : q ≠ 4) (h : al c = true) : st q c = 1 := by simp [st, hq, h]
theorem st_nal0 (c : UInt8) (h : al c = false) : st 0 c = 4 := by simp [st, h]
theorem st_nal1 (c : UInt8) (h : al c = false) : st 1 c = if c = 46 then 0 else if c = 95 then 2 else if c = 45 then 3 else 4 := by simp [st, h]
theorem st2 (c : UInt8) (h : c ≠ 95) : st 2 c = st 0 c := by simp [st, h]
theorem st3 (c : UInt8) (h : c ≠ 45) : st 3 c = st 0 c := by simp [st, h]
/-- behind one underscore with no second one: as at a run's beginning -/
theorem accq_2 (l : List UInt8) (k : Nat) (h : ∀ hk : k < l.length, l[k] ≠ 95) : accq 2 (l.drop k) = accq 0 (l.drop k) := by
  by_cases hk : k < l.length
  · rw [accq_at _ _ _ hk, accq_at _ _ _ hk, st2 _ (h hk)]
  · rw [accq_end _ _ _ (by omega), accq_end _ _ _ (by omega)]; rfl
theorem accq_3 (l : List UInt8) (k : Nat) (h : ∀ hk : k < l.length, l[k] ≠ 45) : accq 3 (l.drop k) = accq 0 (l.drop k) := by
  by_cases hk : k < l.length
  · rw [accq_at _ _ _ hk, accq_at _ _ _ hk, st3 _ (h hk)]
  · rw [accq_end _ _ _ (by omega), accq_end _ _ _ (by omega)]; rfl

/-! ### the model's joints -/
def sepL (m : List UInt8) : Bool := m == [46] || m == [95] || m == [95, 95] || (!m.isEmpty && m.all (· == 45))
theorem run0_nal (m : List UInt8) (h : ∀ c ∈ m, al c = false) (h0 : m ≠ []) : run 0 m = 4 := by
  match m, h0 with
  | c :: r, _ => rw [run_cons, st_nal0 c (h c (by simp)), run_dead]
theorem run3_nal (m : List UInt8) (h : ∀ c ∈ m, al c = false) : (run 3 m != 4) = m.all (· == 45) := by
  induction m with
  | nil => rfl
  | cons c r ih =>
    rw [run_cons]
    by_cases hc : c = 45
    · subst hc
      rw [show st 3 45 = 3 from by decide, ih (fun c hc => h c (by simp [hc]))]; simp
    · rw [st3 c hc, st_nal0 c (h c (by simp)), run_dead]; simp [hc]
theorem sep_run (m : List UInt8) (h : ∀ c ∈ m, al c = false) (h0 : m ≠ []) : (run 1 m != 4) = sepL m := by
  match m, h0 with
  | c :: r, _ =>
    have hr : ∀ c ∈ r, al c = false := fun c hc => h c (by simp [hc])
    rw [run_cons, st_nal1 c (h c (by simp))]
    by_cases h1 : c = 46
    · subst h1
      by_cases e : r = []
      · subst e; decide
      · rw [if_pos rfl, run0_nal r hr e]; simp [sepL, e]
    · rw [if_neg h1]
      by_cases h2 : c = 95
      · subst h2
        rw [if_pos rfl]
        match r with
        | [] => decide
        | d :: r' =>
          rw [run_cons]
          have hr' : ∀ c ∈ r', al c = false := fun c hc => hr c (by simp [hc])
          by_cases h3 : d = 95
          · subst h3
            rw [show st 2 95 = 0 from by decide]
            by_cases e : r' = []
            · subst e; decide
            · rw [run0_nal r' hr' e]; simp [sepL, e]
          · rw [st2 d h3, st_nal0 d (hr d (by simp)), run_dead]; simp [sepL, h3]
      · rw [if_neg h2]
        by_cases h3 : c = 45
        · subst h3
          rw [if_pos rfl, run3_nal r hr]; simp [sepL]
        · rw [if_neg h3, run_dead]; simp [sepL, h1, h2, h3]
theorem accq_seg (l : List UInt8) (q k j : Nat) (hkj : k ≤ j) : accq q (l.drop k) = accq (run q ((l.drop k).take (j - k))) (l.drop j) := by
  unfold accq
  have e : l.drop k = (l.drop k).take (j - k) ++ l.drop j := by
    conv => lhs; rw [← List.take_append_drop (j - k) (l.drop k)]
    rw [List.drop_drop, show k + (j - k) = j from by omega]
  conv => lhs; rw [e]
  rw [run_append]
/-- the last byte is outside the alphabet: no component -/
theorem run_last (l : List UInt8) (c : UInt8) (q : Nat) (h : al c = false) : run q (l ++ [c]) ≠ 1 := by
  rw [run_append]
  show st (run q l) c ≠ 1
  unfold st; rw [h, if_neg Bool.false_ne_true]; repeat' split
  all_goals simp
theorem acc_last (l : List UInt8) (h0 : 0 < l.length) (h : al l[l.length - 1] = false) : acc l = false := by
  have e : l = l.take (l.length - 1) ++ [l[l.length - 1]] := by
    rw [← List.take_succ_eq_append_getElem (by omega), List.take_of_length_le (by omega)]
  have := run_last (l.take (l.length - 1)) _ 0 h
  rw [← e] at this
  simp [acc, this]
theorem acc_first (l : List UInt8) (h0 : 0 < l.length) (h : al l[0] = false) : acc l = false := by
  have := accq_at 0 l 0 h0
  rw [List.drop_zero, st_nal0 _ h, accq_dead] at this
  exact this
end Go.Proofs.Qxb6619735a.Pl
