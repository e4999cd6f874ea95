/-
  What IEEE double words stand for, as rationals; how far the rounding of one operation goes. Plain: no Go in sight.
-/
import Ieee.Arith
namespace Go.Proofs.Qxb6625468a.Fl
open Ieee

/-! ### Powers of two -/
theorem zp_pos (p : Int) : 0 < (2 : Rat) ^ p := Rat.zpow_pos (by decide)
theorem zp_add (a b : Int) : (2 : Rat) ^ (a + b) = (2 : Rat) ^ a * (2 : Rat) ^ b := Rat.zpow_add (by decide) a b
theorem zp_split {a b c : Int} (h : a = b + c) : (2 : Rat) ^ a = (2 : Rat) ^ b * (2 : Rat) ^ c := by rw [h, zp_add]
theorem zp_nat (n : Nat) : (2 : Rat) ^ (n : Int) = ((2 ^ n : Nat) : Rat) := by
  rw [Rat.zpow_natCast, Rat.natCast_pow]; rfl
theorem zp_one_le (n : Nat) : (1 : Rat) ≤ (2 : Rat) ^ (n : Int) := by
  rw [zp_nat]
  have : (1 : Nat) ≤ 2 ^ n := Nat.one_le_two_pow
  exact_mod_cast Rat.natCast_le_natCast.2 this
theorem zp_mono {a b : Int} (h : a ≤ b) : (2 : Rat) ^ a ≤ (2 : Rat) ^ b := by
  obtain ⟨n, hn⟩ := Int.le.dest h
  rw [← hn, zp_add]
  have h1 := zp_one_le n
  have h2 := zp_pos a
  have := Rat.mul_le_mul_of_nonneg_left h1 (Rat.le_of_lt h2)
  grind
theorem zp_lt {a b : Int} (h : a < b) : (2 : Rat) ^ a < (2 : Rat) ^ b := by
  have h1 := zp_mono (show a + 1 ≤ b by omega)
  rw [zp_add] at h1
  have h2 := zp_pos a
  have : (2 : Rat) ^ (1 : Int) = 2 := by decide +kernel
  grind
theorem le_of_zp {a b : Int} (h : (2 : Rat) ^ a ≤ (2 : Rat) ^ b) : a ≤ b := by
  rcases Int.lt_or_le b a with h' | h'
  · have := zp_lt h'; grind
  · exact h'

/-! ### Words and values -/
def sgn (neg : Bool) : Rat := if neg then -1 else 1
/-- The word x is a finite double of value v. -/
def Is (x : Nat) (v : Rat) : Prop := ∃ s m p, double.read x = .number s m p ∧ v = sgn s * (m : Rat) * (2 : Rat) ^ p

theorem Is.unique {x : Nat} {v v' : Rat} (h : Is x v) (h' : Is x v') : v = v' := by
  obtain ⟨s, m, p, h1, rfl⟩ := h
  obtain ⟨s', m', p', h1', rfl⟩ := h'
  rw [h1] at h1'
  cases h1'
  rfl

theorem binade_eq : double.binade = 2 ^ 52 := rfl
theorem infRung_eq : double.infRung = 2047 * 2 ^ 52 := by decide +kernel
theorem signWeight_eq : double.signWeight = 2 ^ 63 := rfl
theorem leastPlace_eq : double.leastPlace = -1074 := by decide +kernel

theorem read_word (neg : Bool) (rung : Nat) (h : rung < 2047 * 2 ^ 52) :
    double.read (double.word neg rung) = if rung < 2 ^ 52 then .number neg rung (-1074) else .number neg (2 ^ 52 + rung % 2 ^ 52) (-1074 + (rung / 2 ^ 52 - 1 : Nat)) := by
  unfold Format.read Format.word
  simp only [binade_eq, infRung_eq, signWeight_eq, leastPlace_eq]
  cases neg
  · simp only [Bool.false_eq_true, if_false]
    rw [show rung / 2 ^ 63 % 2 = 0 by omega, show rung % 2 ^ 63 = rung by omega]
    simp [h]
  · simp only [if_true]
    rw [show (2 ^ 63 + rung) / 2 ^ 63 % 2 = 1 by omega, show (2 ^ 63 + rung) % 2 ^ 63 = rung by omega]
    simp [h]

/-- The value of a rung 'd binades up, kept in the last'. -/
theorem is_word (neg : Bool) (d kept : Nat) (h : d * 2 ^ 52 + kept < 2047 * 2 ^ 52) (h1 : kept ≤ 2 ^ 53) (h2 : d = 0 ∨ 2 ^ 52 ≤ kept) :
    Is (double.word neg (d * 2 ^ 52 + kept)) (sgn neg * (kept : Rat) * (2 : Rat) ^ (-1074 + (d : Int))) := by
  have hr := read_word neg (d * 2 ^ 52 + kept) h
  by_cases hs : d * 2 ^ 52 + kept < 2 ^ 52
  · rw [if_pos hs] at hr
    have hd : d = 0 := by omega
    subst hd
    refine ⟨neg, _, _, hr, ?_⟩
    rw [show 0 * 2 ^ 52 + kept = kept by omega, show (-1074 + ((0 : Nat) : Int)) = -1074 from rfl]
  · rw [if_neg hs] at hr
    rcases Nat.lt_or_ge kept (2 ^ 53) with hk | hk
    · have e1 : (d * 2 ^ 52 + kept) % 2 ^ 52 = kept % 2 ^ 52 := by omega
      have e2 : (d * 2 ^ 52 + kept) / 2 ^ 52 - 1 = d := by omega
      have e3 : 2 ^ 52 + kept % 2 ^ 52 = kept := by omega
      rw [e1, e2, e3] at hr
      exact ⟨neg, _, _, hr, rfl⟩
    · obtain rfl : kept = 2 ^ 53 := by omega
      have e1 : (d * 2 ^ 52 + 2 ^ 53) % 2 ^ 52 = 0 := by omega
      have e2 : (d * 2 ^ 52 + 2 ^ 53) / 2 ^ 52 - 1 = d + 1 := by omega
      rw [e1, e2] at hr
      refine ⟨neg, _, _, hr, ?_⟩
      rw [show (-1074 + ((d + 1 : Nat) : Int)) = (-1074 + (d : Int)) + 1 by omega, zp_add (-1074 + (d : Int)) 1]
      have a1 : (2 : Rat) ^ (1 : Int) = 2 := by decide +kernel
      have a2 : ((2 ^ 53 : Nat) : Rat) = 2 * ((2 ^ 52 + 0 : Nat) : Rat) := by decide +kernel
      rw [a1, a2]
      grind

/-! ### The cut -/
theorem cut_even (neg : Bool) (n d : Nat) : 2 * n ≤ 2 * (Toward.even.cut neg n d * 2 ^ d) + 2 ^ d ∧ 2 * (Toward.even.cut neg n d * 2 ^ d) ≤ 2 * n + 2 ^ d ∧ Toward.even.cut neg n d ≤ n / 2 ^ d + 1 ∧ n / 2 ^ d ≤ Toward.even.cut neg n d := by
  unfold Toward.cut
  simp only [Nat.one_shiftLeft]
  have hl : n < 2 ^ (n.log2 + 1) := Nat.lt_log2_self
  rcases Nat.lt_or_ge d (n.log2 + 2) with hd | hd
  · rw [Nat.min_eq_left (by omega)]
    have hg : 0 < 2 ^ d := Nat.two_pow_pos d
    generalize 2 ^ d = g at *
    have hdm := Nat.div_add_mod n g
    have hm := Nat.mod_lt n hg
    generalize n / g = lo at *
    generalize n % g = re at *
    by_cases hc : (decide (g < 2 * re) || (g == 2 * re && lo % 2 == 1)) = true
    · rw [hc]
      have hge : g ≤ 2 * re := by
        simp only [Bool.or_eq_true, decide_eq_true_eq, Bool.and_eq_true, beq_iff_eq] at hc
        omega
      simp only [Bool.toNat_true, Nat.add_mul, Nat.one_mul]
      rw [Nat.mul_comm lo g]
      omega
    · have hlt : 2 * re ≤ g := by
        simp only [Bool.or_eq_true, decide_eq_true_eq, Bool.and_eq_true, beq_iff_eq] at hc
        omega
      rw [Bool.not_eq_true] at hc
      rw [hc]
      simp only [Bool.toNat_false, Nat.add_zero]
      rw [Nat.mul_comm lo g]
      omega
  · rw [Nat.min_eq_right hd]
    have h4 : 2 ^ (n.log2 + 2) = 2 * 2 ^ (n.log2 + 1) := by rw [Nat.pow_succ, Nat.mul_comm]
    have hle : 2 ^ (n.log2 + 2) ≤ 2 ^ d := Nat.pow_le_pow_right (by decide) hd
    have e1 : n / 2 ^ (n.log2 + 2) = 0 := Nat.div_eq_of_lt (by omega)
    have e2 : n % 2 ^ (n.log2 + 2) = n := Nat.mod_eq_of_lt (by omega)
    have e3 : n / 2 ^ d = 0 := Nat.div_eq_of_lt (by omega)
    have hc : (decide (2 ^ (n.log2 + 2) < 2 * n) || (2 ^ (n.log2 + 2) == 2 * n && 0 % 2 == 1)) = false := by
      simp only [Bool.or_eq_false_iff, decide_eq_false_iff_not, Bool.and_eq_false_iff, beq_eq_false_iff_ne]
      omega
    rw [e1, e2, e3, hc]
    simp only [Bool.toNat_false]
    omega


/-! ### Rounding -/
def eps : Rat := (2 : Rat) ^ (-53 : Int)
def tiny : Rat := (2 : Rat) ^ (-1075 : Int)
theorem eps_pos : 0 < eps := zp_pos _
theorem tiny_pos : 0 < tiny := zp_pos _

theorem log2_le {n : Nat} (h : n ≠ 0) : 2 ^ n.log2 ≤ n := Nat.log2_self_le h

theorem cut_up {K m D P L H : Rat} (r : 2 * (K * D) ≤ 2 * m + D) (hP : 0 < P) (hL : L = P * D) (hH : L = 2 * H) : K * L ≤ m * P + H := by
  have := Rat.mul_le_mul_of_nonneg_right r (Rat.le_of_lt hP)
  subst hL
  grind
theorem cut_dn {K m D P L H : Rat} (r : 2 * m ≤ 2 * (K * D) + D) (hP : 0 < P) (hL : L = P * D) (hH : L = 2 * H) : m * P ≤ K * L + H := by
  have := Rat.mul_le_mul_of_nonneg_right r (Rat.le_of_lt hP)
  subst hL
  grind

theorem nearest_is (neg : Bool) (mag : Nat) (place : Int) (hp : mag = 0 ∨ place + (mag.log2 : Int) ≤ 960) :
    ∃ v e, Is (double.nearest neg mag place) v ∧ v = sgn neg * ((mag : Rat) * (2 : Rat) ^ place + e) ∧ -((mag : Rat) * (2 : Rat) ^ place * eps + tiny) ≤ e ∧ e ≤ (mag : Rat) * (2 : Rat) ^ place * eps + tiny := by
  unfold Format.nearest
  by_cases h0 : mag = 0
  · rw [if_pos h0]
    subst h0
    have h := is_word neg 0 0 (by decide) (by decide) (Or.inl rfl)
    refine ⟨_, 0, h, ?_, ?_, ?_⟩
    · have : ((0 : Nat) : Rat) = 0 := rfl
      rw [this]; grind
    · have := tiny_pos
      have : ((0 : Nat) : Rat) = 0 := rfl
      grind
    · have := tiny_pos
      have : ((0 : Nat) : Rat) = 0 := rfl
      grind
  · rw [if_neg h0]
    replace hp : place + (mag.log2 : Int) ≤ 960 := hp.resolve_left h0
    have hlo := log2_le h0
    have hhi : mag < 2 ^ (mag.log2 + 1) := Nat.lt_log2_self
    simp only [binade_eq, infRung_eq, leastPlace_eq, show (double.fractionBits : Int) = 52 from rfl, Nat.shiftLeft_eq]
    generalize hlast : max (place + (mag.log2 : Int) - 52) (-1074) = last
    have hl1 : place + (mag.log2 : Int) - 52 ≤ last := by omega
    have hl2 : -1074 ≤ last := by omega
    have hl3 : last ≤ 908 := by omega
    -- half a unit in the last place
    have hhalf : (2 : Rat) ^ (last - 1) ≤ (mag : Rat) * (2 : Rat) ^ place * eps + tiny := by
      have hm0 : (0 : Rat) ≤ (mag : Rat) * (2 : Rat) ^ place * eps := Rat.mul_nonneg (Rat.mul_nonneg Rat.natCast_nonneg (Rat.le_of_lt (zp_pos _))) (Rat.le_of_lt eps_pos)
      have ht := tiny_pos
      rcases Int.lt_or_le (-1074) last with hc | hc
      · have : last - 1 = (mag.log2 : Int) + (place + (-53)) := by omega
        rw [this, zp_add, zp_add, zp_nat]
        have h1 : ((2 ^ mag.log2 : Nat) : Rat) ≤ (mag : Rat) := Rat.natCast_le_natCast.2 hlo
        have h2 := Rat.mul_le_mul_of_nonneg_right h1 (Rat.le_of_lt (Rat.mul_pos (zp_pos place) (zp_pos (-53))))
        unfold eps
        unfold eps at hm0
        grind
      · have : last - 1 = -1075 := by omega
        rw [this]
        unfold tiny
        unfold tiny at ht
        grind
    have cut := cut_even neg (mag * 2 ^ (place - last).toNat) (last - place).toNat
    generalize Toward.even.cut neg (mag * 2 ^ (place - last).toNat) (last - place).toNat = K at cut
    obtain ⟨c1, c2, c3, c4⟩ := cut
    -- the sizes of K
    have hK : K ≤ 2 ^ 53 ∧ (-1074 < last → 2 ^ 52 ≤ K) ∧ ((K : Rat) * (2 : Rat) ^ last ≤ (mag : Rat) * (2 : Rat) ^ place + (2 : Rat) ^ (last - 1)) ∧ ((mag : Rat) * (2 : Rat) ^ place ≤ (K : Rat) * (2 : Rat) ^ last + (2 : Rat) ^ (last - 1)) := by
      rcases Int.lt_or_le place last with hc | hc
      · -- digits are dropped
        obtain ⟨dr, hdr⟩ : ∃ dr : Nat, last = place + dr := ⟨(last - place).toNat, by omega⟩
        have e1 : (place - last).toNat = 0 := by omega
        have e2 : (last - place).toNat = dr := by omega
        rw [e1, e2] at c1 c2 c3 c4
        simp only [Nat.pow_zero, Nat.mul_one] at c1 c2 c3 c4
        have hmag : mag < 2 ^ 53 * 2 ^ dr := by
          rw [← Nat.pow_add]
          exact Nat.lt_of_lt_of_le hhi (Nat.pow_le_pow_right (by decide) (by omega))
        have hdiv : mag / 2 ^ dr < 2 ^ 53 := Nat.div_lt_of_lt_mul (by rw [Nat.mul_comm]; exact hmag)
        refine ⟨by omega, fun hgt => ?_, ?_, ?_⟩
        · have : 2 ^ 52 * 2 ^ dr ≤ mag := by
            rw [← Nat.pow_add]
            exact Nat.le_trans (Nat.pow_le_pow_right (by decide) (by omega)) hlo
          have := (Nat.le_div_iff_mul_le (Nat.two_pow_pos dr)).2 this
          omega
        · refine cut_up (D := ((2 ^ dr : Nat) : Rat)) ?_ (zp_pos place) ?_ ?_
          · have := Rat.natCast_le_natCast.2 c2
            rw [Rat.natCast_add, Rat.natCast_mul, Rat.natCast_mul, Rat.natCast_mul] at this
            exact this
          · rw [hdr, zp_add, zp_nat]
          · rw [show last = 1 + (last - 1) by omega, zp_add, show (1 + (last - 1) - 1) = last - 1 by omega]; rfl
        · refine cut_dn (D := ((2 ^ dr : Nat) : Rat)) ?_ (zp_pos place) ?_ ?_
          · have := Rat.natCast_le_natCast.2 c1
            rw [Rat.natCast_add, Rat.natCast_mul, Rat.natCast_mul, Rat.natCast_mul] at this
            exact this
          · rw [hdr, zp_add, zp_nat]
          · rw [show last = 1 + (last - 1) by omega, zp_add, show (1 + (last - 1) - 1) = last - 1 by omega]; rfl
      · -- exact
        obtain ⟨a, ha⟩ : ∃ a : Nat, place = last + a := ⟨(place - last).toNat, by omega⟩
        have e1 : (place - last).toNat = a := by omega
        have e2 : (last - place).toNat = 0 := by omega
        rw [e1, e2] at c1 c2 c3 c4
        simp only [Nat.pow_zero, Nat.mul_one] at c1 c2 c3 c4
        have hKe : K = mag * 2 ^ a := by omega
        have hlt : mag * 2 ^ a < 2 ^ 53 := by
          have h1 : mag * 2 ^ a < 2 ^ (mag.log2 + 1) * 2 ^ a := Nat.mul_lt_mul_of_pos_right hhi (Nat.two_pow_pos a)
          rw [← Nat.pow_add] at h1
          exact Nat.lt_of_lt_of_le h1 (Nat.pow_le_pow_right (by decide) (by omega))
        have hv : (K : Rat) * (2 : Rat) ^ last = (mag : Rat) * (2 : Rat) ^ place := by
          rw [hKe, ha, zp_add, zp_nat, Rat.natCast_mul]
          grind
        have hp1 := zp_pos (last - 1)
        refine ⟨by omega, fun hgt => ?_, by grind, by grind⟩
        have h1 : 2 ^ mag.log2 * 2 ^ a ≤ mag * 2 ^ a := Nat.mul_le_mul_right _ hlo
        rw [← Nat.pow_add, show mag.log2 + a = 52 by omega] at h1
        omega
    obtain ⟨k1, k2, k3, k4⟩ := hK
    have hd : (last - -1074).toNat * 2 ^ 52 + K < 2047 * 2 ^ 52 := by omega
    rw [Nat.min_eq_left (by omega)]
    have hw := is_word neg (last - -1074).toNat K hd k1 (by omega)
    rw [show (-1074 + (((last - -1074).toNat : Nat) : Int)) = last by omega] at hw
    refine ⟨_, (K : Rat) * (2 : Rat) ^ last - (mag : Rat) * (2 : Rat) ^ place, hw, ?_, ?_, ?_⟩
    · grind
    · grind
    · grind

/-! ### One operation -/
def u : Rat := (2 : Rat) ^ (-52 : Int)
def lo : Rat := (2 : Rat) ^ (-900 : Int)
def hi : Rat := (2 : Rat) ^ (900 : Int)
theorem u_eps : u = 2 * eps := by
  unfold u eps
  rw [show (-52 : Int) = 1 + (-53) from rfl, zp_add]; rfl
theorem u_pos : 0 < u := zp_pos _
theorem lo_pos : 0 < lo := zp_pos _
theorem tiny_le {B : Rat} (h : lo ≤ B) : tiny ≤ B * eps := by
  have h1 : tiny ≤ lo * eps := by
    unfold tiny lo eps
    rw [← zp_add]
    exact zp_mono (by decide)
  have := Rat.mul_le_mul_of_nonneg_right h (Rat.le_of_lt eps_pos)
  grind

theorem sgn_cases (s : Bool) : sgn s = 1 ∨ sgn s = -1 := by cases s <;> simp [sgn]

/-- THE WRITING OF A NUMBER x, at most B in size: the word's value is within B * u of it. -/
theorem write_near {s : Bool} {m : Nat} {p : Int} {x B : Rat} (hx : x = sgn s * (m : Rat) * (2 : Rat) ^ p) (h1 : -B ≤ x) (h2 : x ≤ B) (hB : lo ≤ B) (hB' : B ≤ hi) :
    ∃ v, Is (double.write (.number s m p)) v ∧ x - B * u ≤ v ∧ v ≤ x + B * u := by
  have hm0 : (0 : Rat) ≤ (m : Rat) * (2 : Rat) ^ p := Rat.mul_nonneg Rat.natCast_nonneg (Rat.le_of_lt (zp_pos _))
  have hmB : (m : Rat) * (2 : Rat) ^ p ≤ B := by rcases sgn_cases s with h | h <;> rw [h] at hx <;> grind
  have hp : m = 0 ∨ p + (m.log2 : Int) ≤ 960 := by
    by_cases h0 : m = 0
    · exact Or.inl h0
    · right
      have h3 : (2 : Rat) ^ (p + (m.log2 : Int)) ≤ (2 : Rat) ^ (900 : Int) := by
        rw [zp_add, zp_nat]
        have h4 : ((2 ^ m.log2 : Nat) : Rat) ≤ (m : Rat) := Rat.natCast_le_natCast.2 (log2_le h0)
        have h5 := Rat.mul_le_mul_of_nonneg_right h4 (Rat.le_of_lt (zp_pos p))
        unfold hi at hB'
        grind
      have := le_of_zp h3
      omega
  obtain ⟨v, e, hv, hve, e1, e2⟩ := nearest_is s m p hp
  have ht := tiny_le hB
  have hme := Rat.mul_le_mul_of_nonneg_right hmB (Rat.le_of_lt eps_pos)
  refine ⟨v, hv, ?_, ?_⟩
  · rw [u_eps]
    rcases sgn_cases s with h | h <;> rw [h] at hx hve <;> grind
  · rw [u_eps]
    rcases sgn_cases s with h | h <;> rw [h] at hx hve <;> grind

theorem signed_val (s : Bool) (m k : Nat) : ((signed s m k : Int) : Rat) = sgn s * (m : Rat) * (2 : Rat) ^ (k : Int) := by
  unfold signed sgn
  rw [zp_nat, Nat.shiftLeft_eq]
  cases s
  · simp only [Bool.false_eq_true, if_false]
    rw [Rat.intCast_natCast, Rat.natCast_mul]
    grind
  · simp only [if_true]
    rw [Rat.intCast_neg, Rat.intCast_natCast, Rat.natCast_mul]
    grind

theorem natAbs_val (b : Bool) (t : Int) (h : t = 0 ∨ b = decide (t < 0)) : sgn b * ((t.natAbs : Nat) : Rat) = (t : Rat) := by
  rcases h with h | h
  · subst h
    simp
  · subst h
    rcases Int.lt_or_le t 0 with hc | hc
    · rw [decide_eq_true hc]
      have : (t.natAbs : Int) = -t := by omega
      have h2 : ((t.natAbs : Nat) : Rat) = ((-t : Int) : Rat) := by rw [← this, Rat.intCast_natCast]
      rw [h2, Rat.intCast_neg]
      simp only [sgn, if_true]
      grind
    · rw [decide_eq_false (by omega)]
      have : (t.natAbs : Int) = t := by omega
      have h2 : ((t.natAbs : Nat) : Rat) = ((t : Int) : Rat) := by rw [← Rat.intCast_natCast, this]
      rw [h2]
      simp only [sgn, Bool.false_eq_true, if_false]
      grind

theorem sum_val (s : Bool) (m : Nat) (i : Int) (t : Bool) (n : Nat) (j : Int) :
    ∃ b k p, (Datum.number s m i).sum (.number t n j) = some (.number b k p) ∧ sgn b * (k : Rat) * (2 : Rat) ^ p = sgn s * (m : Rat) * (2 : Rat) ^ i + sgn t * (n : Rat) * (2 : Rat) ^ j := by
  refine ⟨_, _, _, rfl, ?_⟩
  rw [natAbs_val _ _ (by
    by_cases h : signed s m (i - min i j).toNat + signed t n (j - min i j).toNat = 0
    · exact Or.inl h
    · right; rw [if_neg h])]
  rw [Rat.intCast_add, signed_val, signed_val]
  have hi' : (2 : Rat) ^ i = (2 : Rat) ^ (((i - min i j).toNat : Nat) : Int) * (2 : Rat) ^ (min i j) := zp_split (by omega)
  have hj' : (2 : Rat) ^ j = (2 : Rat) ^ (((j - min i j).toNat : Nat) : Int) * (2 : Rat) ^ (min i j) := zp_split (by omega)
  rw [hi', hj']
  grind

theorem add_near {x y : Nat} {a b B : Rat} (hx : Is x a) (hy : Is y b) (h1 : -B ≤ a + b) (h2 : a + b ≤ B) (hB : lo ≤ B) (hB' : B ≤ hi) :
    ∃ r v, double.add x y = some r ∧ Is r v ∧ a + b - B * u ≤ v ∧ v ≤ a + b + B * u := by
  obtain ⟨s, m, i, hx, rfl⟩ := hx
  obtain ⟨t, n, j, hy, rfl⟩ := hy
  obtain ⟨c, k, p, hs, hv⟩ := sum_val s m i t n j
  obtain ⟨v, h3, h4, h5⟩ := write_near hv.symm h1 h2 hB hB'
  refine ⟨_, v, ?_, h3, h4, h5⟩
  unfold Format.add
  rw [hx, hy, hs]
  rfl

theorem sgn_not (s : Bool) : sgn (!s) = - sgn s := by cases s <;> simp [sgn]
theorem sgn_xor (s t : Bool) : sgn (s ^^ t) = sgn s * sgn t := by cases s <;> cases t <;> decide +kernel

theorem sub_near {x y : Nat} {a b B : Rat} (hx : Is x a) (hy : Is y b) (h1 : -B ≤ a - b) (h2 : a - b ≤ B) (hB : lo ≤ B) (hB' : B ≤ hi) :
    ∃ r v, double.sub x y = some r ∧ Is r v ∧ a - b - B * u ≤ v ∧ v ≤ a - b + B * u := by
  obtain ⟨s, m, i, hx, rfl⟩ := hx
  obtain ⟨t, n, j, hy, rfl⟩ := hy
  obtain ⟨c, k, p, hs, hv⟩ := sum_val s m i (!t) n j
  rw [sgn_not] at hv
  have hv' : sgn s * (m : Rat) * (2 : Rat) ^ i - sgn t * (n : Rat) * (2 : Rat) ^ j = sgn c * (k : Rat) * (2 : Rat) ^ p := by rw [hv]; grind
  obtain ⟨v, h3, h4, h5⟩ := write_near hv' h1 h2 hB hB'
  refine ⟨_, v, ?_, h3, h4, h5⟩
  unfold Format.sub
  rw [hx, hy]
  unfold Datum.opposite
  rw [hs]
  rfl

theorem mul_near {x y : Nat} {a b B : Rat} (hx : Is x a) (hy : Is y b) (h1 : -B ≤ a * b) (h2 : a * b ≤ B) (hB : lo ≤ B) (hB' : B ≤ hi) :
    ∃ r v, double.mul x y = some r ∧ Is r v ∧ a * b - B * u ≤ v ∧ v ≤ a * b + B * u := by
  obtain ⟨s, m, i, hx, rfl⟩ := hx
  obtain ⟨t, n, j, hy, rfl⟩ := hy
  have hv : sgn s * (m : Rat) * (2 : Rat) ^ i * (sgn t * (n : Rat) * (2 : Rat) ^ j) = sgn (s ^^ t) * ((m * n : Nat) : Rat) * (2 : Rat) ^ (i + j) := by
    rw [sgn_xor, zp_add, Rat.natCast_mul]
    grind
  obtain ⟨v, h3, h4, h5⟩ := write_near hv h1 h2 hB hB'
  refine ⟨_, v, ?_, h3, h4, h5⟩
  unfold Format.mul
  rw [hx, hy]
  rfl

/-! ### Division -/
theorem quo_nat (m n more : Nat) (hn : n ≠ 0) (hm : m ≠ 0) (hmore : 54 + n.log2 ≤ m.log2 + more) :
    2 ^ 53 ≤ m * 2 ^ more / n ∧ 2 * (m * 2 ^ more / n) * n + (m * 2 ^ more % n != 0).toNat * n ≤ 2 * (m * 2 ^ more) + n ∧ 2 * (m * 2 ^ more) ≤ 2 * (m * 2 ^ more / n) * n + (m * 2 ^ more % n != 0).toNat * n + n := by
  have hd : 2 ^ 53 * n ≤ m * 2 ^ more := by
    have h1 : n < 2 ^ (n.log2 + 1) := Nat.lt_log2_self
    have h2 : 2 ^ 53 * n ≤ 2 ^ 53 * 2 ^ (n.log2 + 1) := Nat.mul_le_mul_left _ (by omega)
    rw [← Nat.pow_add] at h2
    have h3 : 2 ^ m.log2 * 2 ^ more ≤ m * 2 ^ more := Nat.mul_le_mul_right _ (log2_le hm)
    rw [← Nat.pow_add] at h3
    have h4 : 2 ^ (53 + (n.log2 + 1)) ≤ 2 ^ (m.log2 + more) := Nat.pow_le_pow_right (by decide) (by omega)
    omega
  have hn' : 0 < n := Nat.pos_of_ne_zero hn
  refine ⟨(Nat.le_div_iff_mul_le hn').2 hd, ?_⟩
  generalize m * 2 ^ more = D at *
  have h1 := Nat.div_add_mod D n
  have h2 := Nat.mod_lt D hn'
  rw [Nat.mul_assoc, Nat.mul_comm (D / n) n]
  generalize n * (D / n) = q at *
  generalize D % n = r at *
  by_cases hr : r = 0
  · subst hr
    simp
    omega
  · have : (r != 0) = true := by simpa using hr
    rw [this]
    simp
    omega

theorem quo_near_rat {X z D n P Q : Rat} (hX : X * n ≤ 2 * D + n) (hX' : 2 * D ≤ X * n + n) (hn : 0 < n) (hP : 0 < P) (hz : z * n = D * P) (hQ : Q * n ≤ D) (h53 : 1 ≤ Q * eps) :
    X * (P / 2) ≤ z + z * eps ∧ z ≤ X * (P / 2) + z * eps := by
  have hD : n ≤ D * eps := by
    have := Rat.mul_le_mul_of_nonneg_right hQ (Rat.le_of_lt eps_pos)
    have h2 := Rat.mul_le_mul_of_nonneg_right h53 (Rat.le_of_lt hn)
    grind
  have hDP := Rat.mul_le_mul_of_nonneg_right hD (Rat.le_of_lt hP)
  have hnP := Rat.mul_pos hn hP
  constructor
  · refine Rat.le_of_mul_le_mul_right ?_ hn
    have h1 := Rat.mul_le_mul_of_nonneg_right hX (Rat.le_of_lt hP)
    have e1 : (z + z * eps) * n = D * P + D * P * eps := by grind
    rw [e1]
    have e2 : X * (P / 2) * n = X * n * P / 2 := by grind
    rw [e2]
    grind
  · refine Rat.le_of_mul_le_mul_right ?_ hn
    have h1 := Rat.mul_le_mul_of_nonneg_right hX' (Rat.le_of_lt hP)
    have e1 : (X * (P / 2) + z * eps) * n = X * n * P / 2 + D * P * eps := by grind
    rw [e1, hz]
    grind

theorem quo_eq (d : Nat) (s : Bool) (m : Nat) (i : Int) (t : Bool) (n : Nat) (j : Int) (hn : n ≠ 0) : (Datum.number s m i).quotient d (.number t n j) =
    some (.number (s ^^ t) (2 * (m <<< (d + n.log2 - m.log2) / n) + (m <<< (d + n.log2 - m.log2) % n != 0).toNat) (i - j - ((d + n.log2 - m.log2 : Nat) : Int) - 1)) := by
  show (if n = 0 then _ else _) = _
  rw [if_neg hn]

theorem div_near {x y : Nat} {a b B : Rat} (hx : Is x a) (hy : Is y b) (hb : b ≠ 0) (h1 : -B ≤ a / b) (h2 : a / b ≤ B) (hB : lo ≤ B) (hB' : 2 * B ≤ hi) :
    ∃ r v, double.div x y = some r ∧ Is r v ∧ a / b - 3 * (B * u) ≤ v ∧ v ≤ a / b + 3 * (B * u) := by
  obtain ⟨s, m, i, hx, rfl⟩ := hx
  obtain ⟨t, n, j, hy, rfl⟩ := hy
  have hn : n ≠ 0 := by
    intro h; subst h; apply hb; simp
  have hn' : (0 : Rat) < (n : Rat) := Rat.natCast_pos.2 (Nat.pos_of_ne_zero hn)
  have hne : (n : Rat) ≠ 0 := fun h => by rw [h] at hn'; exact Rat.lt_irrefl hn'
  -- the size of the quotient
  obtain ⟨z, hz⟩ : ∃ z : Rat, z = (m : Rat) / (n : Rat) * (2 : Rat) ^ (i - j) := ⟨_, rfl⟩
  have hab : sgn s * (m : Rat) * (2 : Rat) ^ i / (sgn t * (n : Rat) * (2 : Rat) ^ j) = sgn (s ^^ t) * z := by
    have e1 : (2 : Rat) ^ i = (2 : Rat) ^ (i - j) * (2 : Rat) ^ j := zp_split (by omega)
    have p1 := zp_pos j
    have hst : sgn t * sgn t = 1 := by cases t <;> decide +kernel
    rw [hz, sgn_xor, e1]
    have : sgn s * (m : Rat) * ((2 : Rat) ^ (i - j) * (2 : Rat) ^ j) = (sgn s * sgn t * ((m : Rat) / (n : Rat) * (2 : Rat) ^ (i - j))) * (sgn t * (n : Rat) * (2 : Rat) ^ j) := by
      have hd : (m : Rat) / (n : Rat) * (n : Rat) = (m : Rat) := Rat.div_mul_cancel hne
      grind
    rw [this]
    exact Rat.mul_div_cancel hb
  have hz0 : 0 ≤ z := by
    rw [hz]
    refine Rat.mul_nonneg ?_ (Rat.le_of_lt (zp_pos _))
    rw [Rat.div_def]
    exact Rat.mul_nonneg Rat.natCast_nonneg (Rat.le_of_lt (Rat.inv_pos.2 hn'))
  rw [hab] at h1 h2 ⊢
  have hzB : z ≤ B := by rcases sgn_cases (s ^^ t) with h | h <;> rw [h] at h1 h2 <;> grind
  -- what is written
  obtain ⟨X, k, p, hq, hXv, hX1, hX2⟩ : ∃ (X : Rat) (k : Nat) (p : Int), (Datum.number s m i).quotient (double.fractionBits + 2) (.number t n j) = some (.number (s ^^ t) k p) ∧ X = (k : Rat) * (2 : Rat) ^ p ∧ X ≤ z + z * eps ∧ z ≤ X + z * eps := by
    refine ⟨_, _, _, quo_eq _ s m i t n j hn, rfl, ?_⟩
    simp only [Nat.shiftLeft_eq, show double.fractionBits + 2 = 54 from rfl]
    generalize hmore : 54 + n.log2 - m.log2 = more
    by_cases hm : m = 0
    · subst hm
      have hz' : z = 0 := by rw [hz]; simp [Rat.div_def]
      rw [hz']
      simp
      grind
    · obtain ⟨q1, q2, q3⟩ := quo_nat m n more hn hm (by omega)
      have hP : (2 : Rat) ^ (i - j - (more : Int) - 1) = (2 : Rat) ^ (i - j - (more : Int)) / 2 := by
        have : (2 : Rat) ^ (i - j - (more : Int)) = (2 : Rat) ^ (i - j - (more : Int) - 1) * 2 := by
          rw [show (i - j - (more : Int)) = (i - j - (more : Int) - 1) + 1 by omega, zp_add, show (i - j - (more : Int) - 1 + 1 - 1) = (i - j - (more : Int) - 1) by omega]; rfl
        rw [this]; grind
      rw [hP]
      refine quo_near_rat (D := ((m * 2 ^ more : Nat) : Rat)) (n := (n : Rat)) (Q := ((m * 2 ^ more / n : Nat) : Rat)) ?_ ?_ hn' (zp_pos _) ?_ ?_ ?_
      · have := Rat.natCast_le_natCast.2 q2
        rw [← Nat.add_mul, Rat.natCast_mul, Rat.natCast_add (2 * (m * 2 ^ more)), Rat.natCast_mul 2] at this
        exact this
      · have := Rat.natCast_le_natCast.2 q3
        rw [← Nat.add_mul, Rat.natCast_add, Rat.natCast_mul _ n, Rat.natCast_mul 2 (m * 2 ^ more)] at this
        exact this
      · have e1 : (2 : Rat) ^ (i - j) = ((2 ^ more : Nat) : Rat) * (2 : Rat) ^ (i - j - (more : Int)) := by rw [← zp_nat]; exact zp_split (by omega)
        have hd : (m : Rat) / (n : Rat) * (n : Rat) = (m : Rat) := Rat.div_mul_cancel hne
        rw [hz, e1, Rat.natCast_mul]
        grind
      · have := Nat.div_mul_le_self (m * 2 ^ more) n
        have := Rat.natCast_le_natCast.2 this
        rw [Rat.natCast_mul (m * 2 ^ more / n)] at this
        exact this
      · have h5 := Rat.mul_le_mul_of_nonneg_right (Rat.natCast_le_natCast.2 q1) (Rat.le_of_lt eps_pos)
        have h6 : ((2 ^ 53 : Nat) : Rat) * eps = 1 := by decide +kernel
        rw [h6] at h5
        exact h5
  have he1 : z * eps ≤ B * eps := Rat.mul_le_mul_of_nonneg_right hzB (Rat.le_of_lt eps_pos)
  have he2 : B * eps ≤ B := by
    have : eps ≤ 1 := by decide +kernel
    have hl := lo_pos
    have := Rat.mul_le_mul_of_nonneg_left this (show 0 ≤ B by grind)
    grind
  have hX0 : 0 ≤ X := by rw [hXv]; exact Rat.mul_nonneg Rat.natCast_nonneg (Rat.le_of_lt (zp_pos _))
  have hl := lo_pos
  have hBu : B * u = 2 * (B * eps) := by rw [u_eps]; grind
  obtain ⟨v, h3, h4, h5⟩ := write_near (s := s ^^ t) (m := k) (p := p) (x := sgn (s ^^ t) * X) (B := 2 * B) (by rw [hXv]; grind)
    (by rcases sgn_cases (s ^^ t) with h | h <;> rw [h] <;> grind) (by rcases sgn_cases (s ^^ t) with h | h <;> rw [h] <;> grind) (by grind) hB'
  refine ⟨_, v, ?_, h3, ?_, ?_⟩
  · unfold Format.div
    rw [hx, hy, hq]
    rfl
  · rcases sgn_cases (s ^^ t) with h | h <;> rw [h] at h4 h5 ⊢ <;> grind
  · rcases sgn_cases (s ^^ t) with h | h <;> rw [h] at h4 h5 ⊢ <;> grind

end Go.Proofs.Qxb6625468a.Fl
