/-
  The base-two logarithm of a positive double, as math.Log2 reckons it over the model's math.archLog: what it is near to. Plain.
-/
import Derived.Test.Qxb6625468aLog
namespace Go.Proofs.Qxb6625468a.Fl
open Ieee

/-! ### Order -/
theorem cast_lt {a b : Int} {P : Rat} (hP : 0 < P) : a < b ↔ (a : Rat) * P < (b : Rat) * P := by
  rw [Rat.mul_lt_mul_right hP]
  exact Rat.intCast_lt_intCast.symm
theorem order_is {x y : Nat} {a b : Rat} (hx : Is x a) (hy : Is y b) : double.order x y = some (if a < b then .lt else if a = b then .eq else .gt) := by
  obtain ⟨s, m, i, hx, ha⟩ := hx
  obtain ⟨t, n, j, hy, hb⟩ := hy
  unfold Format.order
  rw [hx, hy]
  show some (compare _ _) = _
  have hi' : (2 : Rat) ^ i = (2 : Rat) ^ (((i - min i j).toNat : Nat) : Int) * (2 : Rat) ^ (min i j) := zp_split (by omega)
  have hj' : (2 : Rat) ^ j = (2 : Rat) ^ (((j - min i j).toNat : Nat) : Int) * (2 : Rat) ^ (min i j) := zp_split (by omega)
  have ea : a = ((signed s m (i - min i j).toNat : Int) : Rat) * (2 : Rat) ^ (min i j) := by rw [ha, signed_val, hi']; grind
  have eb : b = ((signed t n (j - min i j).toNat : Int) : Rat) * (2 : Rat) ^ (min i j) := by rw [hb, signed_val, hj']; grind
  have hP := zp_pos (min i j)
  generalize signed s m (i - min i j).toNat = A at *
  generalize signed t n (j - min i j).toNat = B at *
  generalize (2 : Rat) ^ (min i j) = P at *
  subst ea eb
  congr 1
  by_cases h1 : A < B
  · rw [if_pos ((cast_lt hP).1 h1)]
    show compareOfLessAndEq A B = _
    unfold compareOfLessAndEq
    rw [if_pos h1]
  · rw [if_neg (fun h => h1 ((cast_lt hP).2 h))]
    by_cases h2 : A = B
    · subst h2
      rw [if_pos rfl]
      show compareOfLessAndEq A A = _
      unfold compareOfLessAndEq
      rw [if_neg h1, if_pos rfl]
    · have h3 : B < A := by omega
      have h4 := (cast_lt hP).1 h3
      rw [if_neg (fun h => by rw [h] at h4; exact Rat.lt_irrefl h4)]
      show compareOfLessAndEq A B = _
      unfold compareOfLessAndEq
      rw [if_neg h1, if_neg h2]

/-! ### The words of positive numbers -/
theorem read_small (q : Nat) (h : q < 2047 * 2 ^ 52) : double.read q = if q < 2 ^ 52 then .number false q (-1074) else .number false (2 ^ 52 + q % 2 ^ 52) (-1074 + (q / 2 ^ 52 - 1 : Nat)) := read_word false q h

theorem is_pos (E r : Nat) (hE : 1 ≤ E) (hE' : E ≤ 2046) (hr : r < 2 ^ 52) : Is (E * 2 ^ 52 + r) (((2 ^ 52 + r : Nat) : Rat) * (2 : Rat) ^ ((E : Int) - 1075)) := by
  have h := is_word false (E - 1) (2 ^ 52 + r) (by omega) (by omega) (Or.inr (by omega))
  have e1 : double.word false ((E - 1) * 2 ^ 52 + (2 ^ 52 + r)) = E * 2 ^ 52 + r := by show (E - 1) * 2 ^ 52 + (2 ^ 52 + r) = _; omega
  rw [e1, show (-1074 + ((E - 1 : Nat) : Int)) = (E : Int) - 1075 by omega] at h
  have e2 : sgn false = 1 := rfl
  rw [e2, Rat.one_mul] at h
  exact h

/-- A word of a number well above nought and not too great. -/
theorem pos_word {q : Nat} {v : Rat} (h : Is q v) (hq : q < 2 ^ 64) (h1 : lo ≤ v) : ∃ E r, q = E * 2 ^ 52 + r ∧ r < 2 ^ 52 ∧ 1 ≤ E ∧ E ≤ 2046 ∧ v = ((2 ^ 52 + r : Nat) : Rat) * (2 : Rat) ^ ((E : Int) - 1075) := by
  have hl := lo_pos
  obtain ⟨s, m, p, hr, hv⟩ := id h
  -- the sign
  have hs : s = false := by
    cases s
    · rfl
    · exfalso
      have : (0 : Rat) ≤ (m : Rat) * (2 : Rat) ^ p := Rat.mul_nonneg Rat.natCast_nonneg (Rat.le_of_lt (zp_pos _))
      have e2 : sgn true = -1 := rfl
      rw [e2] at hv
      grind
  subst hs
  unfold Format.read at hr
  simp only [binade_eq, infRung_eq, signWeight_eq, leastPlace_eq] at hr
  have hneg : q / 2 ^ 63 % 2 = 0 := by
    rcases Nat.mod_two_eq_zero_or_one (q / 2 ^ 63) with hc | hc
    · exact hc
    · rw [hc] at hr
      split at hr
      · cases hr
      · split at hr
        · cases hr
        · split at hr <;> cases hr
  have hq63 : q % 2 ^ 63 = q := by omega
  rw [hq63, hneg] at hr
  by_cases c1 : q < 2 ^ 52
  · exfalso
    rw [if_pos c1] at hr
    cases hr
    have hle : ((q : Nat) : Rat) * (2 : Rat) ^ (-1074 : Int) ≤ (2 : Rat) ^ (-1000 : Int) := by
      have h3 : ((q : Nat) : Rat) ≤ (2 : Rat) ^ ((52 : Nat) : Int) := by rw [zp_nat]; exact Rat.natCast_le_natCast.2 (by omega)
      have h4 := Rat.mul_le_mul_of_nonneg_right h3 (Rat.le_of_lt (zp_pos (-1074)))
      rw [← zp_add] at h4
      have h5 := zp_mono (show ((52 : Nat) : Int) + (-1074) ≤ -1000 by decide)
      exact Rat.le_trans h4 h5
    have h6 : (2 : Rat) ^ (-1000 : Int) < lo := zp_lt (by decide)
    have e2 : sgn false = 1 := rfl
    rw [e2, Rat.one_mul] at hv
    rw [← hv] at hle
    exact absurd h6 (Rat.not_lt.2 (Rat.le_trans h1 hle))
  · rw [if_neg c1] at hr
    by_cases c2 : q < 2047 * 2 ^ 52
    · refine ⟨q / 2 ^ 52, q % 2 ^ 52, by omega, by omega, by omega, by omega, ?_⟩
      have := is_pos (q / 2 ^ 52) (q % 2 ^ 52) (by omega) (by omega) (by omega)
      rw [show q / 2 ^ 52 * 2 ^ 52 + q % 2 ^ 52 = q by omega] at this
      exact h.unique this
    · rw [if_neg c2] at hr
      split at hr <;> cases hr

/-! ### Integers -/
def ofI (n : Int) : Nat := double.write (.number (n < 0) n.natAbs 0)
theorem ofI_ap (n : Int) (N : Rat) (h1 : -N ≤ (n : Rat)) (h2 : (n : Rat) ≤ N) (hl : lo ≤ N) (hh : N ≤ hi) : Ap (ofI n) (n : Rat) (N * u) N := by
  have e : (n : Rat) = sgn (decide (n < 0)) * ((n.natAbs : Nat) : Rat) * (2 : Rat) ^ (0 : Int) := by
    rw [natAbs_val _ n (Or.inr rfl), Rat.zpow_zero, Rat.mul_one]
  obtain ⟨v, a, b, c⟩ := write_near e h1 h2 hl hh
  exact ⟨v, a, b, c, h1, h2⟩

/-! ### The natural logarithm of half + r -/
def sqh : Nat := 0x3FE6A09E667F3BCD
def h0 : Rat := 0x16A09E667F3BCD / 2 ^ 53
theorem is_sqh : Is sqh h0 := ⟨false, 0x16A09E667F3BCD, -53, by decide +kernel, by decide +kernel⟩
def smallW (x : Nat) : Bool := !(double.order sqh x == some .lt)
def logW (x : Nat) : Option Nat :=
  if smallW x then (double.mul x dbl).bind (logCore mone) else (double.mul x one).bind (logCore 0)
/-- The number that 'half + r' stands for. -/
def fr (r : Nat) : Rat := ((2 ^ 52 + r : Nat) : Rat) / 2 ^ 53
theorem is_half (r : Nat) (hr : r < 2 ^ 52) : Is (half + r) (fr r) := by
  have h := is_pos 1022 r (by decide) (by decide) hr
  have e1 : 1022 * 2 ^ 52 + r = half + r := rfl
  rw [e1] at h
  have e2 : (2 : Rat) ^ (((1022 : Nat) : Int) - 1075) = 1 / 2 ^ 53 := by decide +kernel
  rw [e2] at h
  unfold fr
  rw [show ((2 ^ 52 + r : Nat) : Rat) / 2 ^ 53 = ((2 ^ 52 + r : Nat) : Rat) * (1 / 2 ^ 53) by grind]
  exact h
theorem fr_bds (r : Nat) (hr : r < 2 ^ 52) : 1 / 2 ≤ fr r ∧ fr r ≤ 1 := by
  have h1 : ((2 ^ 52 : Nat) : Rat) ≤ ((2 ^ 52 + r : Nat) : Rat) := Rat.natCast_le_natCast.2 (by omega)
  have h2 : ((2 ^ 52 + r : Nat) : Rat) ≤ ((2 ^ 53 : Nat) : Rat) := Rat.natCast_le_natCast.2 (by omega)
  have e1 : ((2 ^ 52 : Nat) : Rat) = 2 ^ 52 := by decide +kernel
  have e2 : ((2 ^ 53 : Nat) : Rat) = 2 ^ 53 := by decide +kernel
  rw [e1] at h1
  rw [e2] at h2
  unfold fr
  generalize ((2 ^ 52 + r : Nat) : Rat) = R at *
  constructor <;> grind
theorem smallW_eq (r : Nat) (hr : r < 2 ^ 52) : smallW (half + r) = decide (fr r ≤ h0) := by
  unfold smallW
  rw [order_is is_sqh (is_half r hr)]
  by_cases h : fr r ≤ h0
  · rw [if_neg (Rat.not_lt.2 h), decide_eq_true h]
    split <;> rfl
  · rw [if_pos (Rat.not_le.1 h), decide_eq_false h]
    rfl

theorem logW_ap (r : Nat) (hr : r < 2 ^ 52) : ∃ y, logW (half + r) = some y ∧ ∃ kk m : Rat, (kk = 0 ∧ m = fr r ∨ kk = -1 ∧ m = 2 * fr r) ∧ h0 ≤ m ∧ m ≤ 2 * h0 ∧ Ap y (kk * (cHi + cLo) + lnx ((m - 1) / (2 + (m - 1)))) (1 / 2 ^ 42) 3 := by
  obtain ⟨f1, f2⟩ := fr_bds r hr
  have hfr : Ap (half + r) (fr r) 0 1 := ⟨_, is_half r hr, by grind, by grind, by grind, f2⟩
  have hh1 : 7 / 10 ≤ h0 := by decide +kernel
  have hh2 : 2 * h0 ≤ 71 / 50 := by decide +kernel
  have hh3 : 1 ≤ 2 * h0 := by decide +kernel
  have hh4 : h0 ≤ 1 := by decide +kernel
  unfold logW
  rw [smallW_eq r hr]
  by_cases h : fr r ≤ h0
  · rw [decide_eq_true h, if_pos rfl]
    obtain ⟨x, ex, hx⟩ := Ap.mul hfr apDbl 2 (1 / 2 ^ 50) (by decide +kernel) (by decide +kernel) (by decide +kernel) (by decide +kernel)
    obtain ⟨y, ey, hy⟩ := logCore_ap apMone hx (by grind) (by grind)
    refine ⟨y, by rw [ex, Option.bind_some]; exact ey, -1, fr r * 2, Or.inr ⟨rfl, by grind⟩, by grind, by grind, hy.weaken (by decide +kernel) (by decide +kernel)⟩
  · rw [decide_eq_false h, if_neg (by decide)]
    have h' := Rat.not_le.1 h
    obtain ⟨x, ex, hx⟩ := Ap.mul hfr apOne 2 (1 / 2 ^ 50) (by decide +kernel) (by decide +kernel) (by decide +kernel) (by decide +kernel)
    obtain ⟨y, ey, hy⟩ := logCore_ap apZero hx (by grind) (by grind)
    refine ⟨y, by rw [ex, Option.bind_some]; exact ey, 0, fr r * 1, Or.inl ⟨rfl, by grind⟩, by grind, by grind, hy.weaken (by decide +kernel) (by decide +kernel)⟩

/-! ### The base-two logarithm -/
def invLn2 : Nat := 4609176140021203710
def c0 : Rat := 0x171547652B82FE / 2 ^ 52
theorem apInv : Ap invLn2 c0 0 (3 / 2) := Ap.word _ false 0x171547652B82FE (-52) _ _ (by decide +kernel) (by decide +kernel) (by decide +kernel) (by decide +kernel)
def log2W (q : Nat) : Option Nat :=
  if q % 2 ^ 52 = 0 then some (ofI ((q / 2 ^ 52 : Nat) - 1023 : Int)) else (logW (half + q % 2 ^ 52)).bind fun y => (double.mul y invLn2).bind fun z => double.add z (ofI ((q / 2 ^ 52 : Nat) - 1022 : Int))

/-- The centre of the answer: of m * 2 ^ e. -/
def lam (m : Rat) : Rat := c0 * lnx ((m - 1) / (2 + (m - 1)))

theorem log2_ap (E r : Nat) (hr : r < 2 ^ 52) (hE : 923 ≤ E) (hE' : E ≤ 1123) :
    ∃ b, log2W (E * 2 ^ 52 + r) = some b ∧ ∃ (m : Rat) (e : Int), ((2 ^ 52 + r : Nat) : Rat) * (2 : Rat) ^ ((E : Int) - 1075) = m * (2 : Rat) ^ e ∧ h0 ≤ m ∧ m ≤ 2 * h0 ∧ Ap b (lam m + (e : Rat)) (1 / 2 ^ 39) 128 := by
  have e1 : (E * 2 ^ 52 + r) % 2 ^ 52 = r := by omega
  have e2 : (E * 2 ^ 52 + r) / 2 ^ 52 = E := by omega
  unfold log2W
  rw [e1, e2]
  have hval : ((2 ^ 52 + r : Nat) : Rat) * (2 : Rat) ^ ((E : Int) - 1075) = fr r * (2 : Rat) ^ ((E : Int) - 1022) := by
    rw [show (2 : Rat) ^ ((E : Int) - 1022) = (2 : Rat) ^ (53 : Int) * (2 : Rat) ^ ((E : Int) - 1075) from zp_split (by omega)]
    have : (2 : Rat) ^ (53 : Int) = 2 ^ 53 := by decide +kernel
    rw [this]
    unfold fr
    generalize ((2 ^ 52 + r : Nat) : Rat) = R at *
    generalize (2 : Rat) ^ ((E : Int) - 1075) = P at *
    grind
  have hone : (2 : Rat) ^ (1 : Int) = 2 := by decide +kernel
  have hEr : (923 : Rat) ≤ (E : Rat) := Rat.natCast_le_natCast.2 hE
  have hEr' : (E : Rat) ≤ (1123 : Rat) := Rat.natCast_le_natCast.2 hE'
  have hc1 : (((E : Int) - 1022 : Int) : Rat) = (E : Rat) - 1022 := by rw [Rat.intCast_sub, Rat.intCast_natCast]; rfl
  have hc2 : (((E : Int) - 1023 : Int) : Rat) = (E : Rat) - 1023 := by rw [Rat.intCast_sub, Rat.intCast_natCast]; rfl
  by_cases h0r : r = 0
  · rw [if_pos h0r]
    refine ⟨_, rfl, 1, (E : Int) - 1023, ?_, by decide +kernel, by decide +kernel, ?_⟩
    · rw [hval, h0r, show (2 : Rat) ^ ((E : Int) - 1022) = (2 : Rat) ^ (1 : Int) * (2 : Rat) ^ ((E : Int) - 1023) from zp_split (by omega), hone]
      have : fr 0 = 1 / 2 := by decide +kernel
      rw [this]
      grind
    · have hl : lam 1 = 0 := by decide +kernel
      rw [hl, Rat.zero_add]
      exact (ofI_ap _ 128 (by rw [hc2]; grind) (by rw [hc2]; grind) (by decide +kernel) (by decide +kernel)).weaken (by decide +kernel) (by decide +kernel)
  · rw [if_neg h0r]
    obtain ⟨y, ey, kk, m, hkm, hm1, hm2, hy⟩ := logW_ap r hr
    obtain ⟨z, ez, hz⟩ := Ap.mul hy apInv (9 / 2) (1 / 2 ^ 41) (by decide +kernel) (by decide +kernel) (by decide +kernel) (by decide +kernel)
    have hI := ofI_ap ((E : Int) - 1022) 101 (by rw [hc1]; grind) (by rw [hc1]; grind) (by decide +kernel) (by decide +kernel)
    obtain ⟨b, eb, hb⟩ := Ap.add0 hz hI (128 - 1) (1 / 2 ^ 40) (by decide +kernel) (by decide +kernel) (by decide +kernel) (by decide +kernel)
    refine ⟨b, by rw [ey, Option.bind_some, ez, Option.bind_some]; exact eb, m, (E : Int) - 1022 + (if kk = 0 then 0 else -1), ?_, hm1, hm2, ?_⟩
    · rw [hval]
      rcases hkm with ⟨h1, h2⟩ | ⟨h1, h2⟩
      · subst h1 h2
        rw [if_pos rfl, Int.add_zero]
      · subst h1 h2
        rw [if_neg (by decide), show (2 : Rat) ^ ((E : Int) - 1022) = (2 : Rat) ^ (1 : Int) * (2 : Rat) ^ ((E : Int) - 1022 + -1) from zp_split (by omega), hone]
        grind
    · obtain ⟨v, b1, b2, b3, b4, b5⟩ := hb
      have k1 : c0 * (cHi + cLo) ≤ 1 + 1 / 2 ^ 45 := by decide +kernel
      have k2 : 1 - 1 / 2 ^ 45 ≤ c0 * (cHi + cLo) := by decide +kernel
      have hcc : (((E : Int) - 1022 + (if kk = 0 then 0 else -1) : Int) : Rat) = (E : Rat) - 1022 + kk := by
        rcases hkm with ⟨h1, h2⟩ | ⟨h1, h2⟩
        · subst h1; rw [if_pos rfl, Rat.intCast_add, hc1]; rfl
        · subst h1; rw [if_neg (by decide), Rat.intCast_add, hc1]; rfl
      rw [hcc]
      rw [hc1] at b2 b3 b4 b5
      unfold lam
      generalize lnx ((m - 1) / (2 + (m - 1))) = L at *
      generalize cHi + cLo = W at *
      rcases hkm with ⟨h1, h2⟩ | ⟨h1, h2⟩
      · subst h1
        exact ⟨v, b1, by grind, by grind, by grind, by grind⟩
      · subst h1
        exact ⟨v, b1, by grind, by grind, by grind, by grind⟩

end Go.Proofs.Qxb6625468a.Fl
