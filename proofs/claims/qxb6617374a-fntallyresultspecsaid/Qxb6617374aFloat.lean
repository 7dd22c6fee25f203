import Derived.Test.Qxb6617374aDomain
namespace Go.Proofs.Qxb6617374a
open Go.RowKit

/-- the bits that the tape gives for an invalid quotient -/
def nanOf (x y : Nat) (w : World) : Nat := Question.cut (.nanBits .f64 x y) (w.tape w.drawn (.nanBits .f64 x y))
/-- bits of a NaN -/
def Nan (r : Nat) : Prop := ∃ s t, FloatKind.f64.format.read r = .nan s t
theorem nan_cut (x y t : Nat) : Nan (Question.cut (.nanBits .f64 x y) t) := by
  unfold Nan
  simp only [Question.cut, FloatKind.format]
  unfold Ieee.Format.read
  have h1 : Ieee.double.signWeight = 9223372036854775808 := by decide
  have h2 : Ieee.double.binade = 4503599627370496 := by decide
  have h3 : Ieee.double.infRung = 9218868437227405312 := by decide
  simp only [h1, h2, h3]
  have e : (t % 2 * 2 ^ 63 + 9218868437227405312 + 1 + t / 2 % (2 ^ 52 - 1)) % 9223372036854775808 = 9218868437227405312 + 1 + t / 2 % (2 ^ 52 - 1) := by omega
  rw [e, if_neg (by omega), if_neg (by omega), if_neg (by omega)]
  exact ⟨_, _, rfl⟩
theorem nan_of (x y : Nat) (w : World) : Nan (nanOf x y w) := nan_cut _ _ _
theorem nan_order {r : Nat} (h : Nan r) (y : Nat) : FloatKind.f64.format.order r y = none := by
  obtain ⟨s, t, h⟩ := h
  unfold Ieee.Format.order
  rw [h]; rfl

theorem run_quo_nan {P : Program} (t : TypeId) (x y : Nat) (h : FloatKind.f64.format.div x y = none) (w : World) :
    (binOp .quo t (.float .f64 x) (.float .f64 y)).run P w = .ok (.float .f64 (nanOf x y w)) w.drew := by
  simp [binOp, Op.floatArith, h, nanOf, Question.forced]

/-- r is what 'x / y' may give -/
def FOk (x y r : Nat) : Prop := FloatKind.f64.format.div x y = some r ∨ (FloatKind.f64.format.div x y = none ∧ Nan r)

set_option maxHeartbeats 400000 in
theorem same_float (x y r1 r2 : Nat) (h1 : FOk x y r1) (h2 : FOk x y r2) (w : World) :
    Calls Try.prog 10 #[.float .f64 r1, .float .f64 r2] w fun e w' => e = .returned (.bool true) ∧ w = w' := by
  rcases h1 with h1 | ⟨h1, n1⟩
  · rcases h2 with h2 | ⟨h2, n2⟩
    · rw [h1] at h2
      simp only [Option.some.injEq] at h2
      subst h2
      clear h1
      cases hb : (FloatKind.f64.format.order r1 r1 == some .eq)
      · have hb' : (FloatKind.f64.format.order r1 r1 != some .eq) = true := by rw [bne, hb]; rfl
        go_enter Try.func10, Try.ntmps10
        go_wp2
        go_ret
        exact ⟨rfl, rfl⟩
      · go_enter Try.func10, Try.ntmps10
        go_wp2
        go_ret
        exact ⟨rfl, rfl⟩
    · rw [h1] at h2; simp at h2
  · rcases h2 with h2 | ⟨h2, n2⟩
    · rw [h1] at h2; simp at h2
    · have e1 : (FloatKind.f64.format.order r1 r2 == some .eq) = false := by rw [nan_order n1]; rfl
      have e2 : (FloatKind.f64.format.order r1 r1 != some .eq) = true := by rw [nan_order n1]; rfl
      have e3 : (FloatKind.f64.format.order r2 r2 != some .eq) = true := by rw [nan_order n2]; rfl
      clear h1 h2 n1 n2
      go_enter Try.func10, Try.ntmps10
      go_wp2
      go_ret
      exact ⟨rfl, rfl⟩

/-- one quotient, whatever the operands: some bits; the world has drawn, or not -/
theorem quo_run (t : TypeId) (x y : Nat) : ∃ (f : World → Nat) (g : World → World), (∀ w, (binOp .quo t (.float .f64 x) (.float .f64 y)).run Try.prog w = .ok (.float .f64 (f w)) (g w)) ∧ (∀ w, FOk x y (f w)) ∧ ((∀ w, g w = w) ∨ ∀ w, g w = w.drew) := by
  cases h : FloatKind.f64.format.div x y with
  | some r => exact ⟨fun _ => r, fun w => w, fun w => run_float_arith w .quo t .f64 x y r h, fun _ => .inl h, .inl fun _ => rfl⟩
  | none => exact ⟨nanOf x y, fun w => w.drew, fun w => run_quo_nan t x y h w, fun w => .inr ⟨h, nan_of x y w⟩, .inr fun _ => rfl⟩
end Go.Proofs.Qxb6617374a
