/-
  One symbol of 'entropy': what each operation of its round gives.
-/
import Derived.Test.Qxb6625468aLogW
import Derived.Test.Qxb6625468aRound
namespace Go.Proofs.Qxb6625468a
open Go.ChangeShapes Go.WideShapes Go.ChangeAt Go.RowKit
set_option linter.unusedVariables false

theorem run_maxF {P : Program} {w : World} (ats : Array TypeId) (t : TypeId) {x y : Nat} (h : (Ieee.double.order x y).isSome = true) : (Builtin.max_ ats t #[.float .f64 x, .float .f64 y]).run P w = .ok (.float .f64 (Fl.maxF x y)) w := by
  have e : FloatKind.f64.format = Ieee.double := rfl
  have e2 : ∀ z, FloatKind.f64.decode z = Ieee.double.read z := fun _ => rfl
  unfold Fl.maxF
  cases ho : Ieee.double.order x y with
  | none => rw [ho] at h; cases h
  | some o => cases o <;> simp [Builtin.max_, Builtin.max2, e, ho, e2]
theorem run_minF {P : Program} {w : World} (ats : Array TypeId) (t : TypeId) {x y : Nat} (h : (Ieee.double.order x y).isSome = true) : (Builtin.min_ ats t #[.float .f64 x, .float .f64 y]).run P w = .ok (.float .f64 (Fl.minF x y)) w := by
  have e : FloatKind.f64.format = Ieee.double := rfl
  have e2 : ∀ z, FloatKind.f64.decode z = Ieee.double.read z := fun _ => rfl
  unfold Fl.minF
  cases ho : Ieee.double.order x y with
  | none => rw [ho] at h; cases h
  | some o => cases o <;> simp [Builtin.min_, Builtin.min2, e, ho, e2]
theorem order_some {x y : Nat} {a b : Rat} (hx : Fl.Is x a) (hy : Fl.Is y b) : (Ieee.double.order x y).isSome = true := by
  rw [Fl.order_is hx hy]; rfl

/-- WHAT THE ROUND MEETS: T the total, f the frequency or 1. -/
theorem elem (T f : Nat) (hT : T < 2 ^ 49) (hf : 1 ≤ f) (hf' : f < 2 ^ 33) : ∃ q b m1 m2 v rd : Nat,
    (∀ w, (binOp .quo 36 (.float .f64 (floatOfInt .f64 (T : Int))) (.float .f64 (floatOfInt .f64 (f : Int)))).run Try.prog w = .ok (.float .f64 q) w) ∧
    (∀ w, Calls Try.prog 16 #[.float .f64 q] w fun e w' => e = .returned (.float .f64 b) ∧ w = w') ∧
    (∀ ats t w, (Builtin.max_ ats t #[.float .f64 b, .float .f64 4607182418800017408]).run Try.prog w = .ok (.float .f64 m1) w) ∧
    (∀ ats t w, (Builtin.min_ ats t #[.float .f64 m1, .float .f64 4624633867356078080]).run Try.prog w = .ok (.float .f64 m2) w) ∧
    (∀ w, (binOp .mul 36 (.float .f64 m2) (.float .f64 4625196817309499392)).run Try.prog w = .ok (.float .f64 v) w) ∧
    (∀ w, Calls Try.prog 17 #[.float .f64 v] w fun e w' => e = .returned (.float .f64 rd) ∧ w = w') ∧
    (∀ w, (convert 36 24 (.float .f64 rd)).run Try.prog w = .ok (.int .u32 (Fl.cost T f : Int)) w) := by
  have conv : ∀ (E r : Nat), r < 2 ^ 52 → 1026 ≤ E → E ≤ 1030 → Fl.cost T f = Fl.roundN (E * 2 ^ 52 + r) → ∀ w, (convert 36 24 (.float .f64 (roundWord (E * 2 ^ 52 + r)))).run Try.prog w = .ok (.int .u32 (Fl.cost T f : Int)) w := by
    intro E r hr hE hE' hc w
    have hb := (Fl.cost_main T f hT hf hf').2.1
    have := round_toInt E r hr hE hE' (by rw [← hc]; omega)
    rw [← hc] at this
    exact run_convert_float_int (P := Try.prog) w 36 24 .f64 .u32 _ _ (by rw [Try.underlying36]; rfl) Try.underlying24 this
  rcases Nat.eq_zero_or_pos T with h0 | h0
  · subst h0
    obtain ⟨E', r', e3, hr', hE3, hE3', hcost, _⟩ := Fl.chain0 f hf hf'
    have o1 : (Ieee.double.order Fl.negInf Fl.one).isSome = true := by decide +kernel
    have o2 : (Ieee.double.order (Fl.maxF Fl.negInf Fl.one) Fl.fifteen).isSome = true := by decide +kernel
    exact ⟨0, Fl.negInf, _, _, _, _, fun w => run_float_arith w .quo 36 .f64 _ _ _ (Fl.quot_zero f hf hf'), fun w => Log2_zero w, fun ats t w => run_maxF ats t o1, fun ats t w => run_minF ats t o2,
      fun w => run_float_arith w .mul 36 .f64 _ _ _ e3, fun w => round_calls E' r' hr' hE3 hE3' w, conv E' r' hr' hE3 hE3' hcost⟩
  · obtain ⟨E, r, b, E', r', e1, hr, hE, hE', e2, ⟨x, ix⟩, ⟨y, iy⟩, e3, hr', hE3, hE3', hcost, _⟩ := Fl.chain T f h0 hT hf hf'
    have iq := Fl.is_pos E r (by omega) (by omega) hr
    have q1 : Fl.lo ≤ ((2 ^ 52 + r : Nat) : Rat) * (2 : Rat) ^ ((E : Int) - 1075) := by
      have m1 : ((2 ^ 52 : Nat) : Rat) ≤ ((2 ^ 52 + r : Nat) : Rat) := Fl.nat_le (by omega)
      rw [← Fl.zp_nat] at m1
      have m2 := Rat.mul_le_mul_of_nonneg_right m1 (Rat.le_of_lt (Fl.zp_pos ((E : Int) - 1075)))
      rw [← Fl.zp_add] at m2
      exact Rat.le_trans (Fl.zp_mono (show (-900 : Int) ≤ ((52 : Nat) : Int) + ((E : Int) - 1075) by omega)) m2
    have q2 : ((2 ^ 52 + r : Nat) : Rat) * (2 : Rat) ^ ((E : Int) - 1075) ≤ Fl.hi := by
      have m1 : ((2 ^ 52 + r : Nat) : Rat) ≤ ((2 ^ 53 : Nat) : Rat) := Fl.nat_le (by omega)
      rw [← Fl.zp_nat] at m1
      have m2 := Rat.mul_le_mul_of_nonneg_right m1 (Rat.le_of_lt (Fl.zp_pos ((E : Int) - 1075)))
      rw [← Fl.zp_add] at m2
      exact Rat.le_trans m2 (Fl.zp_mono (show ((53 : Nat) : Int) + ((E : Int) - 1075) ≤ 900 by omega))
    exact ⟨E * 2 ^ 52 + r, b, _, _, _, _, fun w => run_float_arith w .quo 36 .f64 _ _ _ e1, fun w => Log2_calls _ b _ iq q1 q2 (by omega) e2 w, fun ats t w => run_maxF ats t (order_some ix Fl.isOne), fun ats t w => run_minF ats t (order_some iy Fl.isFifteen),
      fun w => run_float_arith w .mul 36 .f64 _ _ _ e3, fun w => round_calls E' r' hr' hE3 hE3' w, conv E' r' hr' hE3 hE3' hcost⟩
end Go.Proofs.Qxb6625468a
