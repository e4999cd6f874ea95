/-
  The walks of package math's functions on the road: Float64bits, Float64frombits, Abs, IsInf, IsNaN, normalize, frexp, Frexp.
-/
import Derived.Test.Qxb6625468aRows
import Derived.Test.Qxb6625468aCost
import Derived.WalkKit
import Derived.ProofKit
import Derived.OpenShut
import Derived.WalkLawsBesides
import Derived.Laws.Cover2
import Derived.Laws.FloatArith
import Derived.Laws.Externs
import Derived.Laws.BitsAllLaws
import Derived.Outline
namespace Go.Proofs.Qxb6625468a
open Go.ChangeShapes Go.WideShapes Go.ChangeAt Go.RowKit
set_option linter.unusedVariables false

theorem run_bits (q : Nat) (w : World) : (callFunc 20 #[.float .f64 q]).run Try.prog w = .ok (.value (.int .u64 q)) w := by
  rw [run_callFunc_extern Try.func20 (by kernel_rfl) (by kernel_rfl) (by kernel_rfl) (e := Extern.MathFloatBits.float64bits) (by kernel_rfl)]
  rfl
theorem run_frombits (n : Int) (w : World) : (callFunc 21 #[.int .u64 n]).run Try.prog w = .ok (.value (.float .f64 n.toNat)) w := by
  rw [run_callFunc_extern Try.func21 (by kernel_rfl) (by kernel_rfl) (by kernel_rfl) (e := Extern.MathFloatBits.float64frombits) (by kernel_rfl)]
  rfl

/-! ### Bits -/
theorem andNot_low (x k : Nat) (hx : x < 2 ^ 64) (hk : k ≤ 64) : x &&& (2 ^ 64 - 1 - (2 ^ k - 1)) = x / 2 ^ k * 2 ^ k := by
  have hp : 0 < 2 ^ k := Nat.two_pow_pos k
  have hle : 2 ^ k ≤ 2 ^ 64 := Nat.pow_le_pow_right (by decide) hk
  have e : 2 ^ 64 - 1 - (2 ^ k - 1) = 2 ^ 64 - ((2 ^ k - 1) + 1) := by omega
  rw [e]
  apply Nat.eq_of_testBit_eq
  intro i
  rw [Nat.testBit_and, Nat.testBit_two_pow_sub_succ (by omega), Nat.testBit_two_pow_sub_one, ← Nat.shiftRight_eq_div_pow, ← Nat.shiftLeft_eq, Nat.testBit_shiftLeft, Nat.testBit_shiftRight]
  by_cases hik : k ≤ i
  · rw [decide_eq_true (show i ≥ k from hik), decide_eq_false (by omega : ¬ i < k), show k + (i - k) = i by omega]
    by_cases h64 : i < 64
    · simp [h64]
    · have : x.testBit i = false := Nat.testBit_lt_two_pow (Nat.lt_of_lt_of_le hx (Nat.pow_le_pow_right (by decide) (by omega)))
      simp [this]
  · rw [decide_eq_false (show ¬ i ≥ k from hik), decide_eq_true (by omega : i < k)]
    simp

theorem abs_bits (q : Nat) (hq : q < 2 ^ 63) : bits .andNot .u64 (q : Int) 9223372036854775808 = (q : Int) := by
  have h := u64_andNot_nat q 9223372036854775808 (by omega) (by omega)
  rw [show ((9223372036854775808 : Nat) : Int) = 9223372036854775808 from rfl] at h
  rw [h, show 18446744073709551615 - 9223372036854775808 = 2 ^ 63 - 1 by decide, Nat.and_two_pow_sub_one_eq_mod, Nat.mod_eq_of_lt hq]
theorem exp_bits (q : Nat) (hq : q < 2 ^ 63) : bits .and .u64 ((q : Int) / 4503599627370496) 2047 = ((q / 2 ^ 52 : Nat) : Int) := by
  have h := u64_and_nat (q / 2 ^ 52) 2047 (by omega) (by omega)
  rw [show ((2047 : Nat) : Int) = 2047 from rfl, show ((q / 2 ^ 52 : Nat) : Int) = (q : Int) / 4503599627370496 by omega] at h
  rw [h, show 2047 = 2 ^ 11 - 1 by decide, Nat.and_two_pow_sub_one_eq_mod, Nat.mod_eq_of_lt (by omega)]
theorem clear_bits (q : Nat) (hq : q < 2 ^ 63) : bits .andNot .u64 (q : Int) 9218868437227405312 = ((q % 2 ^ 52 : Nat) : Int) := by
  have h := u64_andNot_nat q 9218868437227405312 (by omega) (by omega)
  rw [show ((9218868437227405312 : Nat) : Int) = 9218868437227405312 from rfl] at h
  rw [h]
  congr 1
  have e : (18446744073709551615 - 9218868437227405312 : Nat) = 2 ^ 63 ||| (2 ^ 52 - 1) := by decide
  rw [e, Nat.and_or_distrib_left, Nat.and_two_pow_sub_one_eq_mod, nat_bit, show q / 2 ^ 63 = 0 by omega]
  simp
theorem half_bits (r : Nat) (hr : r < 2 ^ 52) : bits .or .u64 (r : Int) 4602678819172646912 = ((Fl.half + r : Nat) : Int) := by
  have h := u64_or_nat r 4602678819172646912 (by omega) (by omega)
  rw [show ((4602678819172646912 : Nat) : Int) = 4602678819172646912 from rfl] at h
  rw [h, Nat.or_comm, nat_join 52 _ r (by decide) hr]
  rfl

/-! ### Order -/
theorem ord_facts {q : Nat} {v : Rat} (h : Fl.Is q v) (h1 : Fl.lo ≤ v) (h2 : v ≤ Fl.hi) :
    (FloatKind.f64.format.order q 0 == some .eq) = false ∧ (FloatKind.f64.format.order q 9218868437227405311 == some .gt) = false ∧ (FloatKind.f64.format.order q q != some .eq) = false ∧ (FloatKind.f64.format.order q 4503599627370496 == some .lt) = false := by
  have i0 : Fl.Is 0 0 := ⟨false, 0, -1074, by decide +kernel, by decide +kernel⟩
  have i1 : Fl.Is 9218868437227405311 ((2 ^ 53 - 1) * (2 : Rat) ^ (971 : Int)) := ⟨false, 2 ^ 53 - 1, 971, by decide +kernel, by decide +kernel⟩
  have i2 : Fl.Is 4503599627370496 ((2 : Rat) ^ (-1022 : Int)) := ⟨false, 2 ^ 52, -1074, by decide +kernel, by decide +kernel⟩
  have l0 : 0 < Fl.lo := Fl.lo_pos
  have l1 : Fl.hi < (2 ^ 53 - 1) * (2 : Rat) ^ (971 : Int) := by decide +kernel
  have l2 : (2 : Rat) ^ (-1022 : Int) < Fl.lo := by decide +kernel
  have e : FloatKind.f64.format = Ieee.double := rfl
  rw [e]
  refine ⟨?_, ?_, ?_, ?_⟩
  · rw [Fl.order_is h i0, if_neg (by grind), if_neg (by grind)]
    rfl
  · rw [Fl.order_is h i1, if_pos (by grind)]
    rfl
  · rw [Fl.order_is h h, if_neg (by grind), if_pos rfl]
    rfl
  · rw [Fl.order_is h i2, if_neg (by grind)]
    split <;> rfl

/-! ### The walks -/
theorem abs_calls (q : Nat) (w : World) (hq : q < 2 ^ 63) :
    Calls Try.prog 33 #[.float .f64 q] w fun e w' => e = .returned (.float .f64 q) ∧ w = w' := by
  have h1 := run_bits q
  have h2 := run_frombits
  have h3 := abs_bits q hq
  go_enter Try.func33, Try.ntmps33
  go_wp2
  go_ret
  exact ⟨rfl, rfl⟩

theorem isInf_calls (q : Nat) (w : World) (hq : q < 2 ^ 63) (h : (FloatKind.f64.format.order q 9218868437227405311 == some .gt) = false) :
    Calls Try.prog 28 #[.float .f64 q, .int .i64 0] w fun e w' => e = .returned (.bool false) ∧ w = w' := by
  go_enter Try.func28, Try.ntmps28
  go_wp2_with fail
  refine (abs_calls q _ hq).mono ?_
  rintro e w1 ⟨rfl, rfl⟩
  go_wp2
  go_ret
  exact ⟨rfl, rfl⟩

theorem isNaN_calls (q : Nat) (w : World) (h : (FloatKind.f64.format.order q q != some .eq) = false) :
    Calls Try.prog 29 #[.float .f64 q] w fun e w' => e = .returned (.bool false) ∧ w = w' := by
  go_enter Try.func29, Try.ntmps29
  go_wp2
  go_ret
  exact ⟨rfl, rfl⟩

theorem normalize_calls (q : Nat) (w : World) (hq : q < 2 ^ 63) (h : (FloatKind.f64.format.order q 4503599627370496 == some .lt) = false) :
    Calls Try.prog 30 #[.float .f64 q] w fun e w' => e = .returned (.tuple #[.float .f64 q, .int .i64 0]) ∧ w = w' := by
  go_enter Try.func30, Try.ntmps30
  go_wp2_with fail
  refine (abs_calls q _ hq).mono ?_
  rintro e w1 ⟨rfl, rfl⟩
  go_wp2
  go_ret2
  exact ⟨rfl, rfl⟩

theorem ret_fi {a a' : Nat} {b b' : Int} (h1 : a = a') (h2 : b = b') : Ending.returned (.tuple #[.float .f64 a, .int .i64 b]) = .returned (.tuple #[.float .f64 a', .int .i64 b']) := by rw [h1, h2]

set_option maxHeartbeats 400000 in
theorem frexp_calls (q : Nat) (w : World) (hq : q < 2047 * 2 ^ 52) (h0 : (FloatKind.f64.format.order q 0 == some .eq) = false) (h1 : (FloatKind.f64.format.order q 9218868437227405311 == some .gt) = false) (h2 : (FloatKind.f64.format.order q q != some .eq) = false) (h3 : (FloatKind.f64.format.order q 4503599627370496 == some .lt) = false) :
    Calls Try.prog 25 #[.float .f64 q] w fun e w' => e = .returned (.tuple #[.float .f64 (Fl.half + q % 2 ^ 52), .int .i64 ((q / 2 ^ 52 : Nat) - 1022 : Int)]) ∧ w = w' := by
  have hq' : q < 2 ^ 63 := by omega
  have b1 := run_bits q
  have b2 := run_frombits
  have b3 := exp_bits q hq'
  have b4 := clear_bits q hq'
  have b5 := half_bits (q % 2 ^ 52) (by omega)
  rw [show ((q % 2 ^ 52 : Nat) : Int) = (q : Int) % 4503599627370496 by omega] at b5
  have hE : q / 2 ^ 52 ≤ 2047 := by omega
  go_enter Try.func25, Try.ntmps25
  go_wp2_with fail
  refine (isInf_calls q _ hq' h1).mono ?_
  rintro e w1 ⟨rfl, rfl⟩
  go_wp2_with fail
  refine (isNaN_calls q _ h2).mono ?_
  rintro e w1 ⟨rfl, rfl⟩
  go_wp2_with fail
  refine (normalize_calls q _ hq' h3).mono ?_
  rintro e w1 ⟨rfl, rfl⟩
  go_wp2_with fail
  go_ret2
  exact ⟨ret_fi rfl (by omega), rfl⟩

theorem Frexp_calls (q : Nat) (w : World) (hq : q < 2047 * 2 ^ 52) (h0 : (FloatKind.f64.format.order q 0 == some .eq) = false) (h1 : (FloatKind.f64.format.order q 9218868437227405311 == some .gt) = false) (h2 : (FloatKind.f64.format.order q q != some .eq) = false) (h3 : (FloatKind.f64.format.order q 4503599627370496 == some .lt) = false) :
    Calls Try.prog 22 #[.float .f64 q] w fun e w' => e = .returned (.tuple #[.float .f64 (Fl.half + q % 2 ^ 52), .int .i64 ((q / 2 ^ 52 : Nat) - 1022 : Int)]) ∧ w = w' := by
  go_enter Try.func22, Try.ntmps22
  go_wp2_with fail
  refine (frexp_calls q _ hq h0 h1 h2 h3).mono ?_
  rintro e w1 ⟨rfl, rfl⟩
  go_wp2
  go_ret2
  exact ⟨rfl, rfl⟩

/-- .. of nought. -/
theorem Frexp_zero (w : World) : Calls Try.prog 22 #[.float .f64 0] w fun e w' => e = .returned (.tuple #[.float .f64 0, .int .i64 0]) ∧ w = w' := by
  have h0 : (FloatKind.f64.format.order 0 0 == some .eq) = true := by decide +kernel
  go_enter Try.func22, Try.ntmps22
  go_wp2
  go_ret2
  exact ⟨rfl, rfl⟩
end Go.Proofs.Qxb6625468a
