/-
  The walk of math.Round where entropy calls it, and the conversion of its answer to uint32.
-/
import Derived.Test.Qxb6625468aMath
namespace Go.Proofs.Qxb6625468a
open Go.ChangeShapes Go.WideShapes Go.ChangeAt Go.RowKit
set_option linter.unusedVariables false

/-- math.Round's answer, as a word. -/
def roundWord (v : Nat) : Nat := (v + 2 ^ (51 - (v / 2 ^ 52 - 1023))) / 2 ^ (52 - (v / 2 ^ 52 - 1023)) * 2 ^ (52 - (v / 2 ^ 52 - 1023))

theorem ret_w {a a' : Nat} (h1 : a = a') : Ending.returned (.float .f64 a) = .returned (.float .f64 a') := by rw [h1]

theorem clearLow (x k : Nat) (hx : x < 2 ^ 64) (hk : k ≤ 64) (m : Int) (hm : m = ((2 ^ k - 1 : Nat) : Int)) (y : Int) (hy : y = (x : Int)) : bits .andNot .u64 y m = ((x / 2 ^ k * 2 ^ k : Nat) : Int) := by
  subst hm hy
  have hle : 2 ^ k ≤ 2 ^ 64 := Nat.pow_le_pow_right (by decide) hk
  rw [u64_andNot_nat x (2 ^ k - 1) (by omega) (by omega), ← andNot_low x k hx hk]

theorem round_calls1026 (r : Nat) (hr : r < 2 ^ 52) (w : World) :
    Calls Try.prog 17 #[.float .f64 (1026 * 2 ^ 52 + r)] w fun e w' => e = .returned (.float .f64 (roundWord (1026 * 2 ^ 52 + r))) ∧ w = w' := by
  have hw : roundWord (1026 * 2 ^ 52 + r) = (1026 * 2 ^ 52 + r + 281474976710656) / 2 ^ 49 * 2 ^ 49 := by
    unfold roundWord
    rw [show (1026 * 2 ^ 52 + r) / 2 ^ 52 - 1023 = 3 by omega]
  have H : Hid (roundWord (1026 * 2 ^ 52 + r) = (1026 * 2 ^ 52 + r + 281474976710656) / 2 ^ 49 * 2 ^ 49) := hw
  clear hw
  obtain ⟨v, hv⟩ : ∃ v, v = 1026 * 2 ^ 52 + r := ⟨_, rfl⟩
  rw [← hv] at H ⊢
  have b1 := run_bits v
  have b2 := run_frombits
  have b3 := exp_bits v (by omega)
  rw [show v / 2 ^ 52 = 1026 by omega] at b3
  have b4 := clearLow (v + 281474976710656) 49 (by omega) (by omega) 562949953421311 (by decide) ((v : Int) + 281474976710656) (by omega)
  have hv1 : v < 9223372036854775808 := by omega
  clear hv
  go_enter Try.func17, Try.ntmps17
  go_wp2
  go_ret
  exact ⟨ret_w (by rw [H.out]), rfl⟩

theorem round_calls1027 (r : Nat) (hr : r < 2 ^ 52) (w : World) :
    Calls Try.prog 17 #[.float .f64 (1027 * 2 ^ 52 + r)] w fun e w' => e = .returned (.float .f64 (roundWord (1027 * 2 ^ 52 + r))) ∧ w = w' := by
  have hw : roundWord (1027 * 2 ^ 52 + r) = (1027 * 2 ^ 52 + r + 140737488355328) / 2 ^ 48 * 2 ^ 48 := by
    unfold roundWord
    rw [show (1027 * 2 ^ 52 + r) / 2 ^ 52 - 1023 = 4 by omega]
  have H : Hid (roundWord (1027 * 2 ^ 52 + r) = (1027 * 2 ^ 52 + r + 140737488355328) / 2 ^ 48 * 2 ^ 48) := hw
  clear hw
  obtain ⟨v, hv⟩ : ∃ v, v = 1027 * 2 ^ 52 + r := ⟨_, rfl⟩
  rw [← hv] at H ⊢
  have b1 := run_bits v
  have b2 := run_frombits
  have b3 := exp_bits v (by omega)
  rw [show v / 2 ^ 52 = 1027 by omega] at b3
  have b4 := clearLow (v + 140737488355328) 48 (by omega) (by omega) 281474976710655 (by decide) ((v : Int) + 140737488355328) (by omega)
  have hv1 : v < 9223372036854775808 := by omega
  clear hv
  go_enter Try.func17, Try.ntmps17
  go_wp2
  go_ret
  exact ⟨ret_w (by rw [H.out]), rfl⟩

theorem round_calls1028 (r : Nat) (hr : r < 2 ^ 52) (w : World) :
    Calls Try.prog 17 #[.float .f64 (1028 * 2 ^ 52 + r)] w fun e w' => e = .returned (.float .f64 (roundWord (1028 * 2 ^ 52 + r))) ∧ w = w' := by
  have hw : roundWord (1028 * 2 ^ 52 + r) = (1028 * 2 ^ 52 + r + 70368744177664) / 2 ^ 47 * 2 ^ 47 := by
    unfold roundWord
    rw [show (1028 * 2 ^ 52 + r) / 2 ^ 52 - 1023 = 5 by omega]
  have H : Hid (roundWord (1028 * 2 ^ 52 + r) = (1028 * 2 ^ 52 + r + 70368744177664) / 2 ^ 47 * 2 ^ 47) := hw
  clear hw
  obtain ⟨v, hv⟩ : ∃ v, v = 1028 * 2 ^ 52 + r := ⟨_, rfl⟩
  rw [← hv] at H ⊢
  have b1 := run_bits v
  have b2 := run_frombits
  have b3 := exp_bits v (by omega)
  rw [show v / 2 ^ 52 = 1028 by omega] at b3
  have b4 := clearLow (v + 70368744177664) 47 (by omega) (by omega) 140737488355327 (by decide) ((v : Int) + 70368744177664) (by omega)
  have hv1 : v < 9223372036854775808 := by omega
  clear hv
  go_enter Try.func17, Try.ntmps17
  go_wp2
  go_ret
  exact ⟨ret_w (by rw [H.out]), rfl⟩

theorem round_calls1029 (r : Nat) (hr : r < 2 ^ 52) (w : World) :
    Calls Try.prog 17 #[.float .f64 (1029 * 2 ^ 52 + r)] w fun e w' => e = .returned (.float .f64 (roundWord (1029 * 2 ^ 52 + r))) ∧ w = w' := by
  have hw : roundWord (1029 * 2 ^ 52 + r) = (1029 * 2 ^ 52 + r + 35184372088832) / 2 ^ 46 * 2 ^ 46 := by
    unfold roundWord
    rw [show (1029 * 2 ^ 52 + r) / 2 ^ 52 - 1023 = 6 by omega]
  have H : Hid (roundWord (1029 * 2 ^ 52 + r) = (1029 * 2 ^ 52 + r + 35184372088832) / 2 ^ 46 * 2 ^ 46) := hw
  clear hw
  obtain ⟨v, hv⟩ : ∃ v, v = 1029 * 2 ^ 52 + r := ⟨_, rfl⟩
  rw [← hv] at H ⊢
  have b1 := run_bits v
  have b2 := run_frombits
  have b3 := exp_bits v (by omega)
  rw [show v / 2 ^ 52 = 1029 by omega] at b3
  have b4 := clearLow (v + 35184372088832) 46 (by omega) (by omega) 70368744177663 (by decide) ((v : Int) + 35184372088832) (by omega)
  have hv1 : v < 9223372036854775808 := by omega
  clear hv
  go_enter Try.func17, Try.ntmps17
  go_wp2
  go_ret
  exact ⟨ret_w (by rw [H.out]), rfl⟩

theorem round_calls1030 (r : Nat) (hr : r < 2 ^ 52) (w : World) :
    Calls Try.prog 17 #[.float .f64 (1030 * 2 ^ 52 + r)] w fun e w' => e = .returned (.float .f64 (roundWord (1030 * 2 ^ 52 + r))) ∧ w = w' := by
  have hw : roundWord (1030 * 2 ^ 52 + r) = (1030 * 2 ^ 52 + r + 17592186044416) / 2 ^ 45 * 2 ^ 45 := by
    unfold roundWord
    rw [show (1030 * 2 ^ 52 + r) / 2 ^ 52 - 1023 = 7 by omega]
  have H : Hid (roundWord (1030 * 2 ^ 52 + r) = (1030 * 2 ^ 52 + r + 17592186044416) / 2 ^ 45 * 2 ^ 45) := hw
  clear hw
  obtain ⟨v, hv⟩ : ∃ v, v = 1030 * 2 ^ 52 + r := ⟨_, rfl⟩
  rw [← hv] at H ⊢
  have b1 := run_bits v
  have b2 := run_frombits
  have b3 := exp_bits v (by omega)
  rw [show v / 2 ^ 52 = 1030 by omega] at b3
  have b4 := clearLow (v + 17592186044416) 45 (by omega) (by omega) 35184372088831 (by decide) ((v : Int) + 17592186044416) (by omega)
  have hv1 : v < 9223372036854775808 := by omega
  clear hv
  go_enter Try.func17, Try.ntmps17
  go_wp2
  go_ret
  exact ⟨ret_w (by rw [H.out]), rfl⟩

theorem round_calls (E r : Nat) (hr : r < 2 ^ 52) (hE : 1026 ≤ E) (hE' : E ≤ 1030) (w : World) :
    Calls Try.prog 17 #[.float .f64 (E * 2 ^ 52 + r)] w fun e w' => e = .returned (.float .f64 (roundWord (E * 2 ^ 52 + r))) ∧ w = w' := by
  have h : E = 1026 ∨ E = 1027 ∨ E = 1028 ∨ E = 1029 ∨ E = 1030 := by omega
  rcases h with rfl | rfl | rfl | rfl | rfl
  · exact round_calls1026 r hr w
  · exact round_calls1027 r hr w
  · exact round_calls1028 r hr w
  · exact round_calls1029 r hr w
  · exact round_calls1030 r hr w

/-! ### The conversion -/
theorem cut_zero (s : Bool) (n d : Nat) (h : d ≤ n.log2 + 2) : Ieee.Toward.zero.cut s n d = n / 2 ^ d := by
  unfold Ieee.Toward.cut
  simp only [Nat.one_shiftLeft, Nat.min_eq_left h, Bool.toNat_false, Nat.add_zero]

theorem toInt_word (k m : Nat) (hk : 1 ≤ k) (hk' : k ≤ 52) (hm : m < 2 ^ 52) : (FloatKind.f64.decode ((1075 - k) * 2 ^ 52 + m)).toInt .zero = some (((2 ^ 52 + m) / 2 ^ k : Nat) : Int) := by
  have hr : FloatKind.f64.decode ((1075 - k) * 2 ^ 52 + m) = .number false (2 ^ 52 + m) (-(k : Int)) := by
    show Ieee.double.read _ = _
    rw [Fl.read_small _ (by omega), if_neg (by omega), show ((1075 - k) * 2 ^ 52 + m) % 2 ^ 52 = m by omega, show ((1075 - k) * 2 ^ 52 + m) / 2 ^ 52 - 1 = 1074 - k by omega,
      show (-1074 + ((1074 - k : Nat) : Int)) = -(k : Int) by omega]
  rw [hr]
  show some (Ieee.signed false (Ieee.Toward.zero.cut false ((2 ^ 52 + m) <<< (-(k : Int)).toNat) (-(-(k : Int))).toNat) 0) = _
  have hl : 52 ≤ (2 ^ 52 + m).log2 := (Nat.le_log2 (by omega)).2 (by omega)
  rw [show (-(k : Int)).toNat = 0 by omega, show (-(-(k : Int))).toNat = k by omega, Nat.shiftLeft_zero, cut_zero _ _ _ (by omega)]
  unfold Ieee.signed
  rw [if_neg (by decide), Nat.shiftLeft_zero]

theorem some_cast {a b : Nat} (h : a = b) : some (a : Int) = some (b : Int) := by rw [h]


theorem round_toInt1026 (r : Nat) (hr : r < 2 ^ 52) : (FloatKind.f64.decode (roundWord (1026 * 2 ^ 52 + r))).toInt .zero = some (Fl.roundN (1026 * 2 ^ 52 + r) : Int) := by
  have hw : roundWord (1026 * 2 ^ 52 + r) = (1026 * 2 ^ 52 + r + 281474976710656) / 2 ^ 49 * 2 ^ 49 := by
    unfold roundWord
    rw [show (1026 * 2 ^ 52 + r) / 2 ^ 52 - 1023 = 3 by omega]
  have hn : Fl.roundN (1026 * 2 ^ 52 + r) = 8 + (r + 281474976710656) / 2 ^ 49 := by
    unfold Fl.roundN
    rw [show (1026 * 2 ^ 52 + r) / 2 ^ 52 - 1023 = 3 by omega, show (1026 * 2 ^ 52 + r) % 2 ^ 52 = r by omega]
  rw [hw, hn]
  clear hw hn
  by_cases hs : r + 281474976710656 < 2 ^ 52
  · obtain ⟨m, hm⟩ : ∃ m, m = (r + 281474976710656) / 2 ^ 49 * 2 ^ 49 := ⟨_, rfl⟩
    have e1 : (1026 * 2 ^ 52 + r + 281474976710656) / 2 ^ 49 * 2 ^ 49 = (1075 - 49) * 2 ^ 52 + m := by omega
    have e2 : (2 ^ 52 + m) / 2 ^ 49 = 8 + (r + 281474976710656) / 2 ^ 49 := by omega
    have hm2 : m < 2 ^ 52 := by omega
    have e3 := toInt_word 49 m (by decide) (by decide) hm2
    rw [e2] at e3
    rw [e1]
    exact e3
  · have e1 : (1026 * 2 ^ 52 + r + 281474976710656) / 2 ^ 49 * 2 ^ 49 = (1075 - 48) * 2 ^ 52 + 0 := by omega
    have e2 : (2 ^ 52 + 0) / 2 ^ 48 = 8 + (r + 281474976710656) / 2 ^ 49 := by omega
    have e3 := toInt_word 48 0 (by decide) (by decide) (by decide)
    rw [e2] at e3
    rw [e1]
    exact e3

theorem round_toInt1027 (r : Nat) (hr : r < 2 ^ 52) : (FloatKind.f64.decode (roundWord (1027 * 2 ^ 52 + r))).toInt .zero = some (Fl.roundN (1027 * 2 ^ 52 + r) : Int) := by
  have hw : roundWord (1027 * 2 ^ 52 + r) = (1027 * 2 ^ 52 + r + 140737488355328) / 2 ^ 48 * 2 ^ 48 := by
    unfold roundWord
    rw [show (1027 * 2 ^ 52 + r) / 2 ^ 52 - 1023 = 4 by omega]
  have hn : Fl.roundN (1027 * 2 ^ 52 + r) = 16 + (r + 140737488355328) / 2 ^ 48 := by
    unfold Fl.roundN
    rw [show (1027 * 2 ^ 52 + r) / 2 ^ 52 - 1023 = 4 by omega, show (1027 * 2 ^ 52 + r) % 2 ^ 52 = r by omega]
  rw [hw, hn]
  clear hw hn
  by_cases hs : r + 140737488355328 < 2 ^ 52
  · obtain ⟨m, hm⟩ : ∃ m, m = (r + 140737488355328) / 2 ^ 48 * 2 ^ 48 := ⟨_, rfl⟩
    have e1 : (1027 * 2 ^ 52 + r + 140737488355328) / 2 ^ 48 * 2 ^ 48 = (1075 - 48) * 2 ^ 52 + m := by omega
    have e2 : (2 ^ 52 + m) / 2 ^ 48 = 16 + (r + 140737488355328) / 2 ^ 48 := by omega
    have hm2 : m < 2 ^ 52 := by omega
    have e3 := toInt_word 48 m (by decide) (by decide) hm2
    rw [e2] at e3
    rw [e1]
    exact e3
  · have e1 : (1027 * 2 ^ 52 + r + 140737488355328) / 2 ^ 48 * 2 ^ 48 = (1075 - 47) * 2 ^ 52 + 0 := by omega
    have e2 : (2 ^ 52 + 0) / 2 ^ 47 = 16 + (r + 140737488355328) / 2 ^ 48 := by omega
    have e3 := toInt_word 47 0 (by decide) (by decide) (by decide)
    rw [e2] at e3
    rw [e1]
    exact e3

theorem round_toInt1028 (r : Nat) (hr : r < 2 ^ 52) : (FloatKind.f64.decode (roundWord (1028 * 2 ^ 52 + r))).toInt .zero = some (Fl.roundN (1028 * 2 ^ 52 + r) : Int) := by
  have hw : roundWord (1028 * 2 ^ 52 + r) = (1028 * 2 ^ 52 + r + 70368744177664) / 2 ^ 47 * 2 ^ 47 := by
    unfold roundWord
    rw [show (1028 * 2 ^ 52 + r) / 2 ^ 52 - 1023 = 5 by omega]
  have hn : Fl.roundN (1028 * 2 ^ 52 + r) = 32 + (r + 70368744177664) / 2 ^ 47 := by
    unfold Fl.roundN
    rw [show (1028 * 2 ^ 52 + r) / 2 ^ 52 - 1023 = 5 by omega, show (1028 * 2 ^ 52 + r) % 2 ^ 52 = r by omega]
  rw [hw, hn]
  clear hw hn
  by_cases hs : r + 70368744177664 < 2 ^ 52
  · obtain ⟨m, hm⟩ : ∃ m, m = (r + 70368744177664) / 2 ^ 47 * 2 ^ 47 := ⟨_, rfl⟩
    have e1 : (1028 * 2 ^ 52 + r + 70368744177664) / 2 ^ 47 * 2 ^ 47 = (1075 - 47) * 2 ^ 52 + m := by omega
    have e2 : (2 ^ 52 + m) / 2 ^ 47 = 32 + (r + 70368744177664) / 2 ^ 47 := by omega
    have hm2 : m < 2 ^ 52 := by omega
    have e3 := toInt_word 47 m (by decide) (by decide) hm2
    rw [e2] at e3
    rw [e1]
    exact e3
  · have e1 : (1028 * 2 ^ 52 + r + 70368744177664) / 2 ^ 47 * 2 ^ 47 = (1075 - 46) * 2 ^ 52 + 0 := by omega
    have e2 : (2 ^ 52 + 0) / 2 ^ 46 = 32 + (r + 70368744177664) / 2 ^ 47 := by omega
    have e3 := toInt_word 46 0 (by decide) (by decide) (by decide)
    rw [e2] at e3
    rw [e1]
    exact e3

theorem round_toInt1029 (r : Nat) (hr : r < 2 ^ 52) : (FloatKind.f64.decode (roundWord (1029 * 2 ^ 52 + r))).toInt .zero = some (Fl.roundN (1029 * 2 ^ 52 + r) : Int) := by
  have hw : roundWord (1029 * 2 ^ 52 + r) = (1029 * 2 ^ 52 + r + 35184372088832) / 2 ^ 46 * 2 ^ 46 := by
    unfold roundWord
    rw [show (1029 * 2 ^ 52 + r) / 2 ^ 52 - 1023 = 6 by omega]
  have hn : Fl.roundN (1029 * 2 ^ 52 + r) = 64 + (r + 35184372088832) / 2 ^ 46 := by
    unfold Fl.roundN
    rw [show (1029 * 2 ^ 52 + r) / 2 ^ 52 - 1023 = 6 by omega, show (1029 * 2 ^ 52 + r) % 2 ^ 52 = r by omega]
  rw [hw, hn]
  clear hw hn
  by_cases hs : r + 35184372088832 < 2 ^ 52
  · obtain ⟨m, hm⟩ : ∃ m, m = (r + 35184372088832) / 2 ^ 46 * 2 ^ 46 := ⟨_, rfl⟩
    have e1 : (1029 * 2 ^ 52 + r + 35184372088832) / 2 ^ 46 * 2 ^ 46 = (1075 - 46) * 2 ^ 52 + m := by omega
    have e2 : (2 ^ 52 + m) / 2 ^ 46 = 64 + (r + 35184372088832) / 2 ^ 46 := by omega
    have hm2 : m < 2 ^ 52 := by omega
    have e3 := toInt_word 46 m (by decide) (by decide) hm2
    rw [e2] at e3
    rw [e1]
    exact e3
  · have e1 : (1029 * 2 ^ 52 + r + 35184372088832) / 2 ^ 46 * 2 ^ 46 = (1075 - 45) * 2 ^ 52 + 0 := by omega
    have e2 : (2 ^ 52 + 0) / 2 ^ 45 = 64 + (r + 35184372088832) / 2 ^ 46 := by omega
    have e3 := toInt_word 45 0 (by decide) (by decide) (by decide)
    rw [e2] at e3
    rw [e1]
    exact e3

theorem round_toInt1030 (r : Nat) (hr : r < 2 ^ 52) : (FloatKind.f64.decode (roundWord (1030 * 2 ^ 52 + r))).toInt .zero = some (Fl.roundN (1030 * 2 ^ 52 + r) : Int) := by
  have hw : roundWord (1030 * 2 ^ 52 + r) = (1030 * 2 ^ 52 + r + 17592186044416) / 2 ^ 45 * 2 ^ 45 := by
    unfold roundWord
    rw [show (1030 * 2 ^ 52 + r) / 2 ^ 52 - 1023 = 7 by omega]
  have hn : Fl.roundN (1030 * 2 ^ 52 + r) = 128 + (r + 17592186044416) / 2 ^ 45 := by
    unfold Fl.roundN
    rw [show (1030 * 2 ^ 52 + r) / 2 ^ 52 - 1023 = 7 by omega, show (1030 * 2 ^ 52 + r) % 2 ^ 52 = r by omega]
  rw [hw, hn]
  clear hw hn
  by_cases hs : r + 17592186044416 < 2 ^ 52
  · obtain ⟨m, hm⟩ : ∃ m, m = (r + 17592186044416) / 2 ^ 45 * 2 ^ 45 := ⟨_, rfl⟩
    have e1 : (1030 * 2 ^ 52 + r + 17592186044416) / 2 ^ 45 * 2 ^ 45 = (1075 - 45) * 2 ^ 52 + m := by omega
    have e2 : (2 ^ 52 + m) / 2 ^ 45 = 128 + (r + 17592186044416) / 2 ^ 45 := by omega
    have hm2 : m < 2 ^ 52 := by omega
    have e3 := toInt_word 45 m (by decide) (by decide) hm2
    rw [e2] at e3
    rw [e1]
    exact e3
  · have e1 : (1030 * 2 ^ 52 + r + 17592186044416) / 2 ^ 45 * 2 ^ 45 = (1075 - 44) * 2 ^ 52 + 0 := by omega
    have e2 : (2 ^ 52 + 0) / 2 ^ 44 = 128 + (r + 17592186044416) / 2 ^ 45 := by omega
    have e3 := toInt_word 44 0 (by decide) (by decide) (by decide)
    rw [e2] at e3
    rw [e1]
    exact e3

theorem u32min : IntKind.u32.min = 0 := by simp [IntKind.min, IntKind.signed]
theorem u32max : IntKind.u32.max = 4294967295 := by simp [IntKind.max, IntKind.signed, IntKind.bits]
theorem toVal {x n : Nat} (key : (FloatKind.f64.decode x).toInt .zero = some (n : Int)) (h : n ≤ 4294967295) : floatToIntVal .f64 x .u32 = some (n : Int) := by
  unfold floatToIntVal
  rw [key]
  dsimp only
  rw [u32min, u32max, if_pos ⟨Int.natCast_nonneg _, Int.ofNat_le.2 h⟩]

theorem round_toInt (E r : Nat) (hr : r < 2 ^ 52) (hE : 1026 ≤ E) (hE' : E ≤ 1030) (h : Fl.roundN (E * 2 ^ 52 + r) ≤ 4294967295) : floatToIntVal .f64 (roundWord (E * 2 ^ 52 + r)) .u32 = some (Fl.roundN (E * 2 ^ 52 + r) : Int) := by
  have key : (FloatKind.f64.decode (roundWord (E * 2 ^ 52 + r))).toInt .zero = some (Fl.roundN (E * 2 ^ 52 + r) : Int) := by
    clear h
    have h : E = 1026 ∨ E = 1027 ∨ E = 1028 ∨ E = 1029 ∨ E = 1030 := by omega
    rcases h with rfl | rfl | rfl | rfl | rfl
    · exact round_toInt1026 r hr
    · exact round_toInt1027 r hr
    · exact round_toInt1028 r hr
    · exact round_toInt1029 r hr
    · exact round_toInt1030 r hr
  exact toVal key h
end Go.Proofs.Qxb6625468a
