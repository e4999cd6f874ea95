/-
  What 'entropy' sets a cost to: a plain function of the total and of the frequency; what it answers. Plain.
-/
import Derived.Test.Qxb6625468aTable
import Derived.Laws.FloatBits
namespace Go.Proofs.Qxb6625468a.Fl
open Ieee

/-! ### The quotient -/
def eta : Rat := 1 / 2 ^ 45
theorem nat_le {a b : Nat} (h : a ≤ b) : (a : Rat) ≤ (b : Rat) := Rat.natCast_le_natCast.2 h

theorem ofI_nat (n : Nat) (h1 : 1 ≤ n) (h2 : n < 2 ^ 60) : ∃ v, Is (ofI n) v ∧ (n : Rat) * (1 - u) ≤ v ∧ v ≤ (n : Rat) * (1 + u) := by
  have e : ((n : Int) : Rat) = (n : Rat) := Rat.intCast_natCast n
  have a := nat_le h1
  have b := nat_le (show n ≤ 2 ^ 60 by omega)
  have c : lo ≤ ((1 : Nat) : Rat) := by decide +kernel
  have d : ((2 ^ 60 : Nat) : Rat) ≤ hi := by decide +kernel
  have c1 : ((1 : Nat) : Rat) = 1 := rfl
  obtain ⟨v, i1, i2, i3, _, _⟩ := ofI_ap (n : Int) (n : Rat) (by rw [e]; grind) (by rw [e]; exact Rat.le_refl) (Rat.le_trans c a) (Rat.le_trans b d)
  rw [e] at i2 i3
  exact ⟨v, i1, by grind, by grind⟩

theorem quot_rat {T f a b z q : Rat} (hT : 0 < T) (hf : 0 < f) (a1 : T * (1 - u) ≤ a) (a2 : a ≤ T * (1 + u)) (b1 : f * (1 - u) ≤ b) (b2 : b ≤ f * (1 + u)) (hz : z * b = a) (q1 : z - 3 * (z * u) ≤ q) (q2 : q ≤ z + 3 * (z * u)) :
    T * (1 - eta) ≤ q * f ∧ q * f ≤ T * (1 + eta) := by
  have hu : 0 < u := u_pos
  have hu1 : u ≤ 1 / 100 := by decide +kernel
  have k1 : (1 + u) * (1 + 3 * u) ≤ (1 + eta) * (1 - u) := by decide +kernel
  have k2 : (1 - eta) * (1 + u) ≤ (1 - u) * (1 - 3 * u) := by decide +kernel
  have hTu := Rat.mul_pos hT (show 0 < 1 - u by grind)
  have hfu := Rat.mul_pos hf (show 0 < 1 - u by grind)
  have hb : 0 < b := by grind
  have ha : 0 < a := by grind
  have hz0 : 0 ≤ z := by
    rcases (Rat.le_total : 0 ≤ z ∨ z ≤ 0) with h | h
    · exact h
    · have := Rat.mul_nonneg (show 0 ≤ -z by grind) (Rat.le_of_lt hb)
      grind
  have hq0 : 0 ≤ q := by
    have := Rat.mul_nonneg hz0 (show 0 ≤ 1 - 3 * u by grind)
    grind
  have qb1 := Rat.mul_le_mul_of_nonneg_right q1 (Rat.le_of_lt hb)
  have qb2 := Rat.mul_le_mul_of_nonneg_right q2 (Rat.le_of_lt hb)
  have e1 : (z - 3 * (z * u)) * b = a * (1 - 3 * u) := by rw [← hz]; grind
  have e2 : (z + 3 * (z * u)) * b = a * (1 + 3 * u) := by rw [← hz]; grind
  rw [e1] at qb1
  rw [e2] at qb2
  have s1 := Rat.mul_le_mul_of_nonneg_right a1 (show 0 ≤ 1 - 3 * u by grind)
  have s2 := Rat.mul_le_mul_of_nonneg_right a2 (show 0 ≤ 1 + 3 * u by grind)
  have s3 := Rat.mul_le_mul_of_nonneg_left b1 hq0
  have s4 := Rat.mul_le_mul_of_nonneg_left b2 hq0
  have t1 := Rat.mul_le_mul_of_nonneg_left k1 (Rat.le_of_lt hT)
  have t2 := Rat.mul_le_mul_of_nonneg_left k2 (Rat.le_of_lt hT)
  constructor
  · refine Rat.le_of_mul_le_mul_right (c := 1 + u) ?_ (by grind)
    grind
  · refine Rat.le_of_mul_le_mul_right (c := 1 - u) ?_ (by grind)
    grind

/-- The quotient's word and its number. -/
theorem quot_word (T f : Nat) (hT : 1 ≤ T) (hT' : T < 2 ^ 49) (hf : 1 ≤ f) (hf' : f < 2 ^ 33) :
    ∃ E r : Nat, double.div (ofI T) (ofI f) = some (E * 2 ^ 52 + r) ∧ r < 2 ^ 52 ∧ 923 ≤ E ∧ E ≤ 1123 ∧
      (T : Rat) * (1 - eta) ≤ ((2 ^ 52 + r : Nat) : Rat) * (2 : Rat) ^ ((E : Int) - 1075) * (f : Rat) ∧ ((2 ^ 52 + r : Nat) : Rat) * (2 : Rat) ^ ((E : Int) - 1075) * (f : Rat) ≤ (T : Rat) * (1 + eta) := by
  obtain ⟨a, ia, a1, a2⟩ := ofI_nat T hT (by omega)
  obtain ⟨b, ib, b1, b2⟩ := ofI_nat f hf (by omega)
  have hu : 0 < u := u_pos
  have hu1 : u ≤ 1 / 100 := by decide +kernel
  have T1 : (1 : Rat) ≤ (T : Rat) := nat_le hT
  have T2 : (T : Rat) ≤ 2 ^ 49 := by have := nat_le (show T ≤ 2 ^ 49 by omega); exact Rat.le_trans this (by decide +kernel)
  have f1 : (1 : Rat) ≤ (f : Rat) := nat_le hf
  have f2 : (f : Rat) ≤ 2 ^ 33 := by have := nat_le (show f ≤ 2 ^ 33 by omega); exact Rat.le_trans this (by decide +kernel)
  generalize (T : Rat) = TT at *
  generalize (f : Rat) = ff at *
  have hTu := Rat.mul_le_mul_of_nonneg_right T1 (show 0 ≤ 1 - u by grind)
  have hfu := Rat.mul_le_mul_of_nonneg_right f1 (show 0 ≤ 1 - u by grind)
  have hb : 0 < b := by grind
  have hz : a / b * b = a := Rat.div_mul_cancel (by grind)
  -- rough bounds of the quotient
  have a3 : 99 / 100 ≤ a := by grind
  have b3 : b ≤ 2 ^ 34 := by
    have := Rat.mul_le_mul_of_nonneg_right f2 (show 0 ≤ 1 + u by grind)
    have h2 : (2 : Rat) ^ 33 * (1 + u) ≤ 2 ^ 34 := by decide +kernel
    grind
  have a4 : a ≤ 2 ^ 50 := by
    have := Rat.mul_le_mul_of_nonneg_right T2 (show 0 ≤ 1 + u by grind)
    have h2 : (2 : Rat) ^ 49 * (1 + u) ≤ 2 ^ 50 := by decide +kernel
    grind
  have b4 : 99 / 100 ≤ b := by grind
  obtain ⟨z, hzz⟩ : ∃ z, z = a / b := ⟨_, rfl⟩
  rw [← hzz] at hz
  have z1 : 1 / 2 ^ 35 ≤ z := by
    refine Rat.le_of_mul_le_mul_right ?_ hb
    rw [hz]
    have h3 := Rat.mul_le_mul_of_nonneg_left b3 (show (0 : Rat) ≤ 1 / 2 ^ 35 by decide +kernel)
    have h4 : (1 : Rat) / 2 ^ 35 * 2 ^ 34 = 1 / 2 := by decide +kernel
    grind
  have z2 : z ≤ 2 ^ 51 := by
    refine Rat.le_of_mul_le_mul_right ?_ hb
    rw [hz]
    have h3 := Rat.mul_le_mul_of_nonneg_left b4 (show (0 : Rat) ≤ 2 ^ 51 by decide +kernel)
    have h4 : (2 : Rat) ^ 50 ≤ 2 ^ 51 * (99 / 100) := by decide +kernel
    grind
  obtain ⟨q, v, e1, iv, v1, v2⟩ := div_near ia ib (B := z) (by grind) (by grind) (by grind) (Rat.le_trans (by decide +kernel) z1) (Rat.le_trans (show 2 * z ≤ 2 ^ 52 by grind) (by decide +kernel))
  rw [← hzz] at v1 v2
  have hv := quot_rat (show 0 < TT by grind) (show 0 < ff by grind) a1 a2 b1 b2 hz v1 v2
  have zu := Rat.mul_le_mul_of_nonneg_left hu1 (show 0 ≤ z by grind)
  have v3 : 1 / 2 ^ 36 ≤ v := by
    have : (1 : Rat) / 2 ^ 35 = 2 * (1 / 2 ^ 36) := by decide +kernel
    grind
  have v4 : v ≤ 2 ^ 52 := by
    have : (2 : Rat) ^ 52 = 2 * 2 ^ 51 := by decide +kernel
    grind
  obtain ⟨E, r, hq, hr, hE, hE', hve⟩ := pos_word iv (double.div_lt e1) (Rat.le_trans (by decide +kernel) v3)
  subst hq
  refine ⟨E, r, e1, hr, ?_, ?_, ?_⟩
  · rcases Nat.lt_or_ge E 923 with hc | hc
    · exfalso
      have m1 : ((2 ^ 52 + r : Nat) : Rat) ≤ ((2 ^ 53 : Nat) : Rat) := nat_le (by omega)
      rw [← zp_nat] at m1
      have m2 := Rat.mul_le_mul_of_nonneg_right m1 (Rat.le_of_lt (zp_pos ((E : Int) - 1075)))
      rw [← zp_add, ← hve] at m2
      have m3 := zp_mono (show ((53 : Nat) : Int) + ((E : Int) - 1075) ≤ -50 by omega)
      have m4 : (2 : Rat) ^ (-50 : Int) < 1 / 2 ^ 36 := by decide +kernel
      grind
    · exact hc
  · rcases Nat.lt_or_ge 1123 E with hc | hc
    · exfalso
      have m1 : ((2 ^ 52 : Nat) : Rat) ≤ ((2 ^ 52 + r : Nat) : Rat) := nat_le (by omega)
      rw [← zp_nat] at m1
      have m2 := Rat.mul_le_mul_of_nonneg_right m1 (Rat.le_of_lt (zp_pos ((E : Int) - 1075)))
      rw [← zp_add, ← hve] at m2
      have m3 := zp_mono (show 60 ≤ ((52 : Nat) : Int) + ((E : Int) - 1075) by omega)
      have m4 : (2 : Rat) ^ 52 < (2 : Rat) ^ (60 : Int) := by decide +kernel
      grind
    · exact hc
  · rw [← hve]
    exact hv

/-! ### The clamp, the scale, the rounding -/
def negInf : Nat := 0xFFF0000000000000
def fifteen : Nat := 4624633867356078080
def sixteen : Nat := 4625196817309499392
theorem isOne : Is one 1 := ⟨false, 2 ^ 52, -52, by decide +kernel, by decide +kernel⟩
theorem isFifteen : Is fifteen 15 := ⟨false, 0x1E000000000000, -49, by decide +kernel, by decide +kernel⟩
theorem apSixteen : Ap sixteen 16 0 16 := Ap.word _ false (2 ^ 52) (-48) _ _ (by decide +kernel) (by decide +kernel) (by decide +kernel) (by decide +kernel)

def maxF (x y : Nat) : Nat :=
  match double.order x y with
  | some .lt => y
  | some .gt => x
  | some .eq => if (double.read x).neg then y else x
  | none => 0
def minF (x y : Nat) : Nat :=
  match double.order x y with
  | some .lt => x
  | some .gt => y
  | some .eq => if (double.read x).neg then x else y
  | none => 0
theorem maxF_is {x y : Nat} {a b : Rat} (hx : Is x a) (hy : Is y b) : (Is (maxF x y) a ∧ b ≤ a) ∨ (Is (maxF x y) b ∧ a ≤ b) := by
  unfold maxF
  rw [order_is hx hy]
  by_cases h1 : a < b
  · rw [if_pos h1]
    exact Or.inr ⟨hy, Rat.le_of_lt h1⟩
  · rw [if_neg h1]
    by_cases h2 : a = b
    · rw [if_pos h2]
      subst h2
      dsimp only
      split
      · exact Or.inl ⟨hy, Rat.le_refl⟩
      · exact Or.inl ⟨hx, Rat.le_refl⟩
    · rw [if_neg h2]
      exact Or.inl ⟨hx, Rat.not_lt.1 h1⟩
theorem minF_is {x y : Nat} {a b : Rat} (hx : Is x a) (hy : Is y b) : (Is (minF x y) a ∧ a ≤ b) ∨ (Is (minF x y) b ∧ b ≤ a) := by
  unfold minF
  rw [order_is hx hy]
  by_cases h1 : a < b
  · rw [if_pos h1]
    exact Or.inl ⟨hx, Rat.le_of_lt h1⟩
  · rw [if_neg h1]
    by_cases h2 : a = b
    · rw [if_pos h2]
      subst h2
      dsimp only
      split
      · exact Or.inl ⟨hx, Rat.le_refl⟩
      · exact Or.inl ⟨hy, Rat.le_refl⟩
    · rw [if_neg h2]
      exact Or.inr ⟨hy, Rat.not_lt.1 h1⟩
theorem max_negInf : maxF negInf one = one := by decide +kernel

/-- math.Round's answer as a whole number, of a word of exponent field E. -/
def roundN (v : Nat) : Nat := 2 ^ (v / 2 ^ 52 - 1023) + (v % 2 ^ 52 + 2 ^ (51 - (v / 2 ^ 52 - 1023))) / 2 ^ (52 - (v / 2 ^ 52 - 1023))

theorem round_rat {n M D P : Rat} (h1 : 2 * M ≤ 2 * (n * D) + D) (h2 : 2 * (n * D) ≤ 2 * M + D) (hP : 0 < P) (hDP : D * P = 1) : M * P ≤ n + 1 / 2 ∧ n ≤ M * P + 1 / 2 := by
  have a := Rat.mul_le_mul_of_nonneg_right h1 (Rat.le_of_lt hP)
  have b := Rat.mul_le_mul_of_nonneg_right h2 (Rat.le_of_lt hP)
  have e : n * D * P = n := by rw [Rat.mul_assoc, hDP, Rat.mul_one]
  constructor <;> grind

theorem roundN_near (E r : Nat) (hr : r < 2 ^ 52) (hE : 1026 ≤ E) (hE' : E ≤ 1030) :
    ((2 ^ 52 + r : Nat) : Rat) * (2 : Rat) ^ ((E : Int) - 1075) ≤ (roundN (E * 2 ^ 52 + r) : Rat) + 1 / 2 ∧ (roundN (E * 2 ^ 52 + r) : Rat) ≤ ((2 ^ 52 + r : Nat) : Rat) * (2 : Rat) ^ ((E : Int) - 1075) + 1 / 2 := by
  have e1 : (E * 2 ^ 52 + r) % 2 ^ 52 = r := by omega
  have e2 : (E * 2 ^ 52 + r) / 2 ^ 52 = E := by omega
  unfold roundN
  rw [e1, e2]
  obtain ⟨e, he⟩ : ∃ e, E = 1023 + e := ⟨E - 1023, by omega⟩
  subst he
  rw [show 1023 + e - 1023 = e by omega]
  have hcase : e = 3 ∨ e = 4 ∨ e = 5 ∨ e = 6 ∨ e = 7 := by omega
  refine round_rat (D := ((2 ^ (52 - e) : Nat) : Rat)) ?_ ?_ (zp_pos _) ?_
  · have : 2 * (2 ^ 52 + r) ≤ 2 * ((2 ^ e + (r + 2 ^ (51 - e)) / 2 ^ (52 - e)) * 2 ^ (52 - e)) + 2 ^ (52 - e) := by
      rcases hcase with rfl | rfl | rfl | rfl | rfl <;> simp <;> omega
    have := nat_le this
    rw [Rat.natCast_add (2 * _), Rat.natCast_mul 2, Rat.natCast_mul 2, Rat.natCast_mul _ (2 ^ (52 - e))] at this
    exact this
  · have : 2 * ((2 ^ e + (r + 2 ^ (51 - e)) / 2 ^ (52 - e)) * 2 ^ (52 - e)) ≤ 2 * (2 ^ 52 + r) + 2 ^ (52 - e) := by
      rcases hcase with rfl | rfl | rfl | rfl | rfl <;> simp <;> omega
    have := nat_le this
    rw [Rat.natCast_add _ (2 ^ (52 - e)), Rat.natCast_mul 2, Rat.natCast_mul 2, Rat.natCast_mul _ (2 ^ (52 - e))] at this
    exact this
  · rw [← zp_nat, ← zp_add, show (((52 - e : Nat) : Int) + (((1023 + e : Nat) : Int) - 1075)) = 0 by omega, Rat.zpow_zero]

/-! ### The cost -/
/-- The word of math.Log2. -/
def bitsW (q : Nat) : Nat := if q = 0 then negInf else (log2W q).getD 0
def clampW (b : Nat) : Nat := minF (maxF b one) fifteen
def quotW (T f : Nat) : Nat := (double.div (ofI T) (ofI f)).getD 0
def scaledW (T f : Nat) : Nat := (double.mul (clampW (bitsW (quotW T f))) sixteen).getD 0
/-- WHAT 'entropy' SETS: T the total, f the frequency or 1. -/
def cost (T f : Nat) : Nat := roundN (scaledW T f)

theorem scaled_of_clamp {m : Nat} {cl : Rat} (h : Is m cl) (h1 : 1 ≤ cl) (h2 : cl ≤ 15) :
    ∃ E r : Nat, double.mul m sixteen = some (E * 2 ^ 52 + r) ∧ r < 2 ^ 52 ∧ 1026 ≤ E ∧ E ≤ 1030 ∧ 16 * cl - 1 / 2 - 1 / 2 ^ 40 ≤ (roundN (E * 2 ^ 52 + r) : Rat) ∧ (roundN (E * 2 ^ 52 + r) : Rat) ≤ 16 * cl + 1 / 2 + 1 / 2 ^ 40 := by
  have hm : Ap m cl 0 15 := ⟨cl, h, by grind, by grind, by grind, h2⟩
  obtain ⟨v, ev, x, ix, x1, x2, _, _⟩ := Ap.mul hm apSixteen 240 (1 / 2 ^ 40) (by decide +kernel) (by decide +kernel) (by decide +kernel) (by decide +kernel)
  have d1 : (1 : Rat) / 2 ^ 40 ≤ 1 / 100 := by decide +kernel
  obtain ⟨E, r, hv, hr, hE, hE', hx⟩ := pos_word ix (double.mul_lt ev) (Rat.le_trans (show lo ≤ 1 by decide +kernel) (by grind))
  subst hv
  have c1 : 1026 ≤ E := by
    rcases Nat.lt_or_ge E 1026 with hc | hc
    · exfalso
      have m1 : ((2 ^ 52 + r : Nat) : Rat) ≤ ((2 ^ 53 : Nat) : Rat) := nat_le (by omega)
      rw [← zp_nat] at m1
      have m2 := Rat.mul_le_mul_of_nonneg_right m1 (Rat.le_of_lt (zp_pos ((E : Int) - 1075)))
      rw [← zp_add, ← hx] at m2
      have m3 := zp_mono (show ((53 : Nat) : Int) + ((E : Int) - 1075) ≤ 3 by omega)
      have m4 : (2 : Rat) ^ (3 : Int) = 8 := by decide +kernel
      grind
    · exact hc
  have c2 : E ≤ 1030 := by
    rcases Nat.lt_or_ge 1030 E with hc | hc
    · exfalso
      have m1 : ((2 ^ 52 : Nat) : Rat) ≤ ((2 ^ 52 + r : Nat) : Rat) := nat_le (by omega)
      rw [← zp_nat] at m1
      have m2 := Rat.mul_le_mul_of_nonneg_right m1 (Rat.le_of_lt (zp_pos ((E : Int) - 1075)))
      rw [← zp_add, ← hx] at m2
      have m3 := zp_mono (show 8 ≤ ((52 : Nat) : Int) + ((E : Int) - 1075) by omega)
      have m4 : (2 : Rat) ^ (8 : Int) = 256 := by decide +kernel
      grind
    · exact hc
  obtain ⟨n1, n2⟩ := roundN_near E r hr c1 c2
  rw [← hx] at n1 n2
  exact ⟨E, r, ev, hr, c1, c2, by grind, by grind⟩

/-- What is known of a clamped number: cl from b. -/
theorem clamp_is {w : Nat} {b : Rat} (h : Is w b) : ∃ cl, Is (clampW w) cl ∧ 1 ≤ cl ∧ cl ≤ 15 ∧ (1 < cl → cl ≤ b) ∧ (cl < 15 → b ≤ cl) := by
  unfold clampW
  rcases maxF_is h isOne with ⟨a1, a2⟩ | ⟨a1, a2⟩
  · rcases minF_is a1 isFifteen with ⟨b1, b2⟩ | ⟨b1, b2⟩
    · exact ⟨_, b1, by grind, by grind, by grind, by grind⟩
    · exact ⟨_, b1, by grind, by grind, by grind, by grind⟩
  · rcases minF_is a1 isFifteen with ⟨b1, b2⟩ | ⟨b1, b2⟩
    · exact ⟨_, b1, by grind, by grind, by grind, by grind⟩
    · exact ⟨_, b1, by grind, by grind, by grind, by grind⟩
theorem clamp_negInf : Is (clampW negInf) 1 := by
  unfold clampW
  rw [max_negInf]
  have : minF one fifteen = one := by decide +kernel
  rw [this]
  exact isOne

theorem int_of_rat {c n : Nat} (h : (n : Rat) - 1 < (c : Rat)) : n ≤ c := by
  rcases Nat.lt_or_ge c n with hc | hc
  · exfalso
    have := nat_le (show c + 1 ≤ n by omega)
    rw [Rat.natCast_add] at this
    have e : ((1 : Nat) : Rat) = 1 := rfl
    grind
  · exact hc

/-! ### What the cost is -/
/-- The quotient of nought. -/
theorem quot_zero (f : Nat) (hf : 1 ≤ f) (hf' : f < 2 ^ 33) : double.div (ofI ((0 : Nat) : Int)) (ofI (f : Int)) = some 0 := by
  obtain ⟨b, ⟨s, m, p, hr, hb⟩, b1, b2⟩ := ofI_nat f hf (by omega)
  have f1 : (1 : Rat) ≤ (f : Rat) := nat_le hf
  have hu1 : u ≤ 1 / 100 := by decide +kernel
  have hu : 0 < u := u_pos
  have hfu := Rat.mul_le_mul_of_nonneg_right f1 (show 0 ≤ 1 - u by grind)
  have hb0 : 0 < b := by grind
  have hm : m ≠ 0 := by
    intro h; subst h
    have : ((0 : Nat) : Rat) = 0 := rfl
    rw [this] at hb
    grind
  have hs : s = false := by
    cases s
    · rfl
    · exfalso
      have : (0 : Rat) ≤ (m : Rat) * (2 : Rat) ^ p := Rat.mul_nonneg Rat.natCast_nonneg (Rat.le_of_lt (zp_pos _))
      have e2 : sgn true = -1 := rfl
      rw [e2] at hb
      grind
  subst hs
  have h0 : double.read (ofI ((0 : Nat) : Int)) = .number false 0 (-1074) := by decide +kernel
  unfold Format.div
  rw [h0, hr, quo_eq _ _ _ _ _ _ _ hm]
  show some (double.write _) = _
  congr 1
  rw [Nat.zero_shiftLeft, Nat.zero_div, Nat.zero_mod]
  rfl

/-- THE CHAIN OF WORDS where the total is not nought: what a walk meets. -/
theorem chain (T f : Nat) (hT : 1 ≤ T) (hT' : T < 2 ^ 49) (hf : 1 ≤ f) (hf' : f < 2 ^ 33) :
    ∃ E r b E' r' : Nat, double.div (ofI T) (ofI f) = some (E * 2 ^ 52 + r) ∧ r < 2 ^ 52 ∧ 923 ≤ E ∧ E ≤ 1123 ∧ log2W (E * 2 ^ 52 + r) = some b ∧ (∃ x, Is b x) ∧ (∃ x, Is (maxF b one) x) ∧
      double.mul (clampW b) sixteen = some (E' * 2 ^ 52 + r') ∧ r' < 2 ^ 52 ∧ 1026 ≤ E' ∧ E' ≤ 1030 ∧ cost T f = roundN (E' * 2 ^ 52 + r') ∧ 16 ≤ cost T f ∧ cost T f ≤ 240 ∧
      (16 < cost T f → f ^ 32 * 2 ^ (2 * cost T f + 18) ≤ T ^ 32 * (2 ^ 19 + 1)) ∧ (cost T f < 240 → T ^ 32 * 2 ^ 19 ≤ f ^ 32 * (2 ^ 19 + 1) * 2 ^ (2 * cost T f + 1)) := by
  obtain ⟨E, r, e1, hr, hE, hE', q1, q2⟩ := quot_word T f hT hT' hf hf'
  obtain ⟨b, e2, m, e, hme, m1, m2, x, ix, x1, x2, _, _⟩ := log2_ap E r hr hE hE'
  obtain ⟨cl, icl, cl1, cl2, cl3, cl4⟩ := clamp_is ix
  obtain ⟨E', r', e3, hr', hE3, hE3', n1, n2⟩ := scaled_of_clamp icl cl1 cl2
  have hq0 : E * 2 ^ 52 + r ≠ 0 := by omega
  have hcost : cost T f = roundN (E' * 2 ^ 52 + r') := by
    unfold cost scaledW quotW bitsW
    rw [e1]
    dsimp only [Option.getD_some]
    rw [if_neg hq0, e2]
    dsimp only [Option.getD_some]
    rw [e3]
    rfl
  have imax : ∃ x, Is (maxF b one) x := by
    rcases maxF_is ix isOne with h | h
    · exact ⟨_, h.1⟩
    · exact ⟨_, h.1⟩
  rw [← hcost] at n1 n2
  generalize cost T f = c at *
  have d1 : (1 : Rat) / 2 ^ 40 ≤ 1 / 100 := by decide +kernel
  have c16 : 16 ≤ c := int_of_rat (by have : ((16 : Nat) : Rat) = 16 := rfl; grind)
  have c240 : c ≤ 240 := by
    have h : (c : Rat) < ((241 : Nat) : Rat) := by have : ((241 : Nat) : Rat) = 241 := rfl; grind
    have := Rat.natCast_lt_natCast.1 h
    omega
  have d2 : (16 : Rat) * (1 / 2 ^ 39) + 1 / 2 ^ 40 ≤ 1 / 2 ^ 30 := by decide +kernel
  have hj : (((c : Int) - 16 * e : Int) : Rat) = (c : Rat) - 16 * (e : Rat) := by rw [Rat.intCast_sub, Rat.intCast_mul, Rat.intCast_natCast]; rfl
  have hm0 : 0 < m := by have := h0_pos; grind
  have hf0 : (1 : Rat) ≤ (f : Rat) := nat_le hf
  have hT0 : (1 : Rat) ≤ (T : Rat) := nat_le hT
  have heta : eta ≤ 1 / 100 := by decide +kernel
  have heta0 : 0 < eta := by decide +kernel
  -- the 32nd power of the quotient times f
  have hpw : (((2 ^ 52 + r : Nat) : Rat) * (2 : Rat) ^ ((E : Int) - 1075) * (f : Rat)) ^ 32 = m ^ 32 * (2 : Rat) ^ (e * 32) * ((f ^ 32 : Nat) : Rat) := by
    rw [hme, pow_mul, pow_mul, zpow_pow, Rat.natCast_pow]
    rfl
  have hqpos : 0 ≤ ((2 ^ 52 + r : Nat) : Rat) * (2 : Rat) ^ ((E : Int) - 1075) * (f : Rat) := Rat.mul_nonneg (Rat.mul_nonneg Rat.natCast_nonneg (Rat.le_of_lt (zp_pos _))) Rat.natCast_nonneg
  have hlow : 0 ≤ (T : Rat) * (1 - eta) := Rat.mul_nonneg (by grind) (by grind)
  have p1 := pow_mono hlow q1 32
  have p2 := pow_mono hqpos q2 32
  rw [hpw] at p1 p2
  rw [pow_mul, show (T : Rat) ^ 32 = ((T ^ 32 : Nat) : Rat) from (Rat.natCast_pow T 32).symm] at p1 p2
  have hF : (0 : Rat) ≤ (2 : Rat) ^ (e * 32) * ((f ^ 32 : Nat) : Rat) := Rat.mul_nonneg (Rat.le_of_lt (zp_pos _)) Rat.natCast_nonneg
  have hTT : (0 : Rat) ≤ ((T ^ 32 : Nat) : Rat) := Rat.natCast_nonneg
  refine ⟨E, r, b, E', r', e1, hr, hE, hE', e2, ⟨x, ix⟩, imax, e3, hr', hE3, hE3', hcost, c16, c240, ?_, ?_⟩
  · intro hgt
    have hgt' : (17 : Rat) ≤ (c : Rat) := nat_le (show 17 ≤ c by omega)
    have hx : cl ≤ x := cl3 (by grind)
    have ha := above (j := (c : Int) - 16 * e) m1 m2 (by rw [hj]; grind)
    have hb := Rat.mul_le_mul_of_nonneg_right ha hF
    have hexp : (2 : Rat) ^ (2 * ((c : Int) - 16 * e) - 1) * (2 : Rat) ^ (e * 32) * (2 : Rat) ^ ((19 : Nat) : Int) = ((2 ^ (2 * c + 18) : Nat) : Rat) := by
      rw [← zp_add, ← zp_add, ← zp_nat]
      congr 1
      omega
    have hk : (1 + eta) ^ 32 * slack * (2 : Rat) ^ ((19 : Nat) : Int) ≤ ((2 ^ 19 + 1 : Nat) : Rat) := by decide +kernel
    apply Rat.natCast_le_natCast.1
    rw [Rat.natCast_mul, Rat.natCast_mul, ← hexp]
    have h19 := zp_pos ((19 : Nat) : Int)
    have s1 := Rat.mul_le_mul_of_nonneg_right hb (Rat.le_of_lt h19)
    have s2 := Rat.mul_le_mul_of_nonneg_right p2 (Rat.le_of_lt (Rat.mul_pos slack_pos h19))
    have s3 := Rat.mul_le_mul_of_nonneg_left hk hTT
    generalize (2 : Rat) ^ ((19 : Nat) : Int) = K at *
    generalize (2 : Rat) ^ (2 * ((c : Int) - 16 * e) - 1) = A at *
    generalize (2 : Rat) ^ (e * 32) = B at *
    generalize ((f ^ 32 : Nat) : Rat) = FF at *
    generalize ((T ^ 32 : Nat) : Rat) = TT at *
    generalize (1 + eta) ^ 32 = N at *
    generalize m ^ 32 = MM at *
    generalize ((2 ^ 19 + 1 : Nat) : Rat) = Z at *
    generalize slack = S at *
    grind
  · intro hlt
    have hlt' : (c : Rat) ≤ (239 : Rat) := nat_le (show c ≤ 239 by omega)
    have hx : x ≤ cl := cl4 (by grind)
    have ha := below (j := (c : Int) - 16 * e) m1 m2 (by rw [hj]; grind)
    have hb := Rat.mul_le_mul_of_nonneg_right ha hF
    have hexp : (2 : Rat) ^ (2 * ((c : Int) - 16 * e) + 1) * (2 : Rat) ^ (e * 32) = ((2 ^ (2 * c + 1) : Nat) : Rat) := by
      rw [← zp_add, ← zp_nat]
      congr 1
      omega
    have hk : slack * ((2 ^ 19 : Nat) : Rat) ≤ ((2 ^ 19 + 1 : Nat) : Rat) * (1 - eta) ^ 32 := by decide +kernel
    have hk0 : 0 < (1 - eta) ^ 32 := by decide +kernel
    have hk1 : (0 : Rat) ≤ ((2 ^ 19 : Nat) : Rat) := Rat.natCast_nonneg
    apply Rat.natCast_le_natCast.1
    rw [Rat.natCast_mul, Rat.natCast_mul (f ^ 32 * (2 ^ 19 + 1)), Rat.natCast_mul (f ^ 32), ← hexp]
    refine Rat.le_of_mul_le_mul_right ?_ hk0
    have s1 := Rat.mul_le_mul_of_nonneg_right (Rat.le_trans (Rat.le_trans p1 (by rw [Rat.mul_assoc]; exact Rat.le_refl)) hb) hk1
    have hAF := Rat.mul_nonneg (Rat.le_of_lt (zp_pos (2 * ((c : Int) - 16 * e) + 1))) hF
    have s2 := Rat.mul_le_mul_of_nonneg_right hk hAF
    generalize (2 : Rat) ^ (2 * ((c : Int) - 16 * e) + 1) = A at *
    generalize (2 : Rat) ^ (e * 32) = B at *
    generalize ((f ^ 32 : Nat) : Rat) = FF at *
    generalize ((T ^ 32 : Nat) : Rat) = TT at *
    generalize (1 - eta) ^ 32 = N at *
    generalize m ^ 32 = MM at *
    generalize ((2 ^ 19 : Nat) : Rat) = K at *
    generalize ((2 ^ 19 + 1 : Nat) : Rat) = Z at *
    generalize slack = S at *
    grind

/-- .. where the total is nought. -/
theorem chain0 (f : Nat) (hf : 1 ≤ f) (hf' : f < 2 ^ 33) :
    ∃ E' r' : Nat, double.mul (clampW negInf) sixteen = some (E' * 2 ^ 52 + r') ∧ r' < 2 ^ 52 ∧ 1026 ≤ E' ∧ E' ≤ 1030 ∧ cost 0 f = roundN (E' * 2 ^ 52 + r') ∧ cost 0 f = 16 := by
  obtain ⟨E', r', e3, hr', hE3, hE3', n1, n2⟩ := scaled_of_clamp clamp_negInf (by decide +kernel) (by decide +kernel)
  have hcost : cost 0 f = roundN (E' * 2 ^ 52 + r') := by
    unfold cost scaledW quotW bitsW
    rw [quot_zero f hf hf']
    dsimp only [Option.getD_some]
    rw [if_pos rfl, e3]
    rfl
  refine ⟨E', r', e3, hr', hE3, hE3', hcost, ?_⟩
  rw [← hcost] at n1 n2
  generalize cost 0 f = c at *
  have d1 : (1 : Rat) / 2 ^ 40 ≤ 1 / 100 := by decide +kernel
  have c16 : 16 ≤ c := int_of_rat (by have : ((16 : Nat) : Rat) = 16 := rfl; grind)
  have h : (c : Rat) < ((17 : Nat) : Rat) := by have : ((17 : Nat) : Rat) = 17 := rfl; grind
  have := Rat.natCast_lt_natCast.1 h
  omega

/-- THE COST, WHATEVER THE TOTAL. -/
theorem cost_main (T f : Nat) (hT : T < 2 ^ 49) (hf : 1 ≤ f) (hf' : f < 2 ^ 33) : 16 ≤ cost T f ∧ cost T f ≤ 240 ∧
    (16 < cost T f → f ^ 32 * 2 ^ (2 * cost T f + 18) ≤ T ^ 32 * (2 ^ 19 + 1)) ∧ (cost T f < 240 → T ^ 32 * 2 ^ 19 ≤ f ^ 32 * (2 ^ 19 + 1) * 2 ^ (2 * cost T f + 1)) := by
  rcases Nat.eq_zero_or_pos T with h | h
  · subst h
    obtain ⟨_, _, _, _, _, _, _, hc⟩ := chain0 f hf hf'
    rw [hc]
    refine ⟨by omega, by omega, by omega, fun _ => ?_⟩
    rw [Nat.zero_pow (by decide), Nat.zero_mul]
    exact Nat.zero_le _
  · obtain ⟨_, _, _, _, _, _, _, _, _, _, _, _, _, _, _, _, _, a, b, c, d⟩ := chain T f h hT hf hf'
    exact ⟨a, b, c, d⟩

end Go.Proofs.Qxb6625468a.Fl
