/-
  The thresholds of the rounding to sixteenths: the polynomial is increasing, and at sixteen places a little below and a little above each threshold it is reckoned out. Plain.
-/
import Derived.Test.Qxb6625468aLog2
namespace Go.Proofs.Qxb6625468a.Fl
open Ieee

/-! ### Powers -/
theorem pow_mono {a b : Rat} (h0 : 0 ≤ a) (h : a ≤ b) (n : Nat) : a ^ n ≤ b ^ n := by
  induction n with
  | zero => rw [Rat.pow_zero, Rat.pow_zero]; exact Rat.le_refl
  | succ n ih =>
    rw [Rat.pow_succ, Rat.pow_succ]
    have h1 := Rat.mul_le_mul_of_nonneg_right ih h0
    have h2 := Rat.mul_le_mul_of_nonneg_left h (Rat.pow_nonneg (n := n) (show 0 ≤ b by grind))
    grind
theorem pow_mul (a b : Rat) (n : Nat) : (a * b) ^ n = a ^ n * b ^ n := by
  induction n with
  | zero => rw [Rat.pow_zero, Rat.pow_zero, Rat.pow_zero, Rat.one_mul]
  | succ n ih => rw [Rat.pow_succ, Rat.pow_succ, Rat.pow_succ, ih]; grind
theorem zpow_pow (e : Int) (n : Nat) : ((2 : Rat) ^ e) ^ n = (2 : Rat) ^ (e * (n : Int)) := by
  induction n with
  | zero => rw [Rat.pow_zero, show e * ((0 : Nat) : Int) = 0 by omega, Rat.zpow_zero]
  | succ n ih =>
    rw [Rat.pow_succ, ih, ← zp_add]
    congr 1
    rw [Int.natCast_add, Int.mul_add]
    simp

/-! ### The polynomial is increasing -/
/-- An odd power: s ^ (2 n + 1). -/
def od : Nat → Rat → Rat
  | 0, s => s
  | n + 1, s => od n s * (s * s)
theorem od_pos (n : Nat) {x y : Rat} (h0 : 0 ≤ x) (h : x ≤ y) : 0 ≤ od n x ∧ od n x ≤ od n y := by
  induction n with
  | zero => exact ⟨h0, h⟩
  | succ n ih =>
    have a := Rat.mul_nonneg h0 h0
    have b := Rat.mul_le_mul_of_nonneg_left h h0
    have c := Rat.mul_le_mul_of_nonneg_right h (show 0 ≤ y by grind)
    have d := Rat.mul_nonneg ih.1 a
    refine ⟨d, ?_⟩
    have e := Rat.mul_le_mul_of_nonneg_right ih.2 a
    have f := Rat.mul_le_mul_of_nonneg_left (show x * x ≤ y * y by grind) (show 0 ≤ od n y by grind)
    show od n x * (x * x) ≤ od n y * (y * y)
    grind
theorem od_neg (n : Nat) (x : Rat) : od n (-x) = - od n x := by
  induction n with
  | zero => rfl
  | succ n ih => show od n (-x) * (-x * -x) = -(od n x * (x * x)); rw [ih]; grind
theorem od_mono (n : Nat) {x y : Rat} (h : x ≤ y) : od n x ≤ od n y := by
  rcases (Rat.le_total : 0 ≤ x ∨ x ≤ 0) with hx | hx
  · exact (od_pos n hx h).2
  · rcases (Rat.le_total : 0 ≤ y ∨ y ≤ 0) with hy | hy
    · have h1 := (od_pos n (show 0 ≤ -x by grind) (Rat.le_refl)).1
      rw [od_neg] at h1
      have h2 := (od_pos n hy (Rat.le_refl)).1
      grind
    · have h1 := (od_pos n (show 0 ≤ -y by grind) (show -y ≤ -x by grind)).2
      rw [od_neg, od_neg] at h1
      grind
theorem lnx_od (s : Rat) : lnx s = 2 * od 0 s + cL1 * od 1 s + cL2 * od 2 s + cL3 * od 3 s + cL4 * od 4 s + cL5 * od 5 s + cL6 * od 6 s + cL7 * od 7 s := by
  simp only [lnx, poly, od]
  grind
theorem lnx_mono {x y : Rat} (h : x ≤ y) : lnx x ≤ lnx y := by
  rw [lnx_od, lnx_od]
  have h0 := od_mono 0 h
  have h1 := Rat.mul_le_mul_of_nonneg_left (od_mono 1 h) (show 0 ≤ cL1 by decide +kernel)
  have h2 := Rat.mul_le_mul_of_nonneg_left (od_mono 2 h) (show 0 ≤ cL2 by decide +kernel)
  have h3 := Rat.mul_le_mul_of_nonneg_left (od_mono 3 h) (show 0 ≤ cL3 by decide +kernel)
  have h4 := Rat.mul_le_mul_of_nonneg_left (od_mono 4 h) (show 0 ≤ cL4 by decide +kernel)
  have h5 := Rat.mul_le_mul_of_nonneg_left (od_mono 5 h) (show 0 ≤ cL5 by decide +kernel)
  have h6 := Rat.mul_le_mul_of_nonneg_left (od_mono 6 h) (show 0 ≤ cL6 by decide +kernel)
  have h7 := Rat.mul_le_mul_of_nonneg_left (od_mono 7 h) (show 0 ≤ cL7 by decide +kernel)
  grind
theorem red_mono {m r : Rat} (h0 : 0 < m) (h : m ≤ r) : (m - 1) / (2 + (m - 1)) ≤ (r - 1) / (2 + (r - 1)) := by
  have e1 : (m - 1) / (2 + (m - 1)) * (2 + (m - 1)) = m - 1 := Rat.div_mul_cancel (by grind)
  have e2 : (r - 1) / (2 + (r - 1)) * (2 + (r - 1)) = r - 1 := Rat.div_mul_cancel (by grind)
  generalize (m - 1) / (2 + (m - 1)) = a at *
  generalize (r - 1) / (2 + (r - 1)) = b at *
  have hp : 0 < (2 + (m - 1)) * (2 + (r - 1)) := Rat.mul_pos (by grind) (by grind)
  refine Rat.le_of_mul_le_mul_right ?_ hp
  have s1 : a * ((2 + (m - 1)) * (2 + (r - 1))) = (m - 1) * (2 + (r - 1)) := by rw [← Rat.mul_assoc, e1]
  have s2 : b * ((2 + (m - 1)) * (2 + (r - 1))) = (r - 1) * (2 + (m - 1)) := by rw [Rat.mul_comm (2 + (m - 1)), ← Rat.mul_assoc, e2]
  rw [s1, s2]
  grind
theorem lam_mono {m r : Rat} (h0 : 0 < m) (h : m ≤ r) : lam m ≤ lam r :=
  Rat.mul_le_mul_of_nonneg_left (lnx_mono (red_mono h0 h)) (show 0 ≤ c0 by decide +kernel)

/-! ### The table -/
def slack : Rat := (1 + 1 / 2 ^ 19) * (1 - 1 / 2 ^ 30)
def rhos : List (Int × Nat) := [(-7, 833089990211756486), (-6, 869974035180848119), (-5, 908491076331944262), (-4, 948713412582711782), (-3, 990716543797368063), (-2, 1034579312504692152), (-1, 1080384051890428283), (0, 1128216740341872890), (1, 1178167162834735025), (2, 1230329079465203537), (3, 1284800401443566312), (4, 1341683374879732726), (5, 1401084772705636332), (6, 1463116095094768249), (7, 1527893778755041357), (8, 1595539415487841237)]
def sigs : List (Int × Nat) := [(-8, 833090040197157398), (-7, 869974087379291795), (-6, 908491130841410477), (-5, 948713469505518244), (-4, 990716603240362474), (-3, 1034579374579452764), (-2, 1080384116713473341), (-1, 1128216808034879341), (0, 1178167233524766916), (1, 1230329153284950520), (2, 1284800478531592711), (3, 1341683455380737634), (4, 1401084856770725217), (5, 1463116182881736588), (6, 1527893870428670832), (7, 1595539511220209038)]
def rhoOk (p : Int × Nat) : Bool := decide (16 * lam ((p.2 : Rat) / 2 ^ 60) < (p.1 : Rat) - 1 / 2 - 1 / 2 ^ 30) && decide ((2 : Rat) ^ (2 * p.1 - 1) ≤ ((p.2 : Rat) / 2 ^ 60) ^ 32 * slack)
def sigOk (p : Int × Nat) : Bool := decide ((p.1 : Rat) + 1 / 2 + 1 / 2 ^ 30 < 16 * lam ((p.2 : Rat) / 2 ^ 60)) && decide (((p.2 : Rat) / 2 ^ 60) ^ 32 ≤ slack * (2 : Rat) ^ (2 * p.1 + 1))
theorem rhos_ok : rhos.all rhoOk = true := by decide +kernel
theorem sigs_ok : sigs.all sigOk = true := by decide +kernel
theorem rhos_there : (List.range 16).all (fun i => rhos.any fun p => p.1 == (i : Int) - 7) = true := by decide +kernel
theorem sigs_there : (List.range 16).all (fun i => sigs.any fun p => p.1 == (i : Int) - 8) = true := by decide +kernel

theorem h0_pos : 0 < h0 := by decide +kernel
theorem slack_pos : 0 < slack := by decide +kernel

theorem above {m : Rat} {j : Int} (h1 : h0 ≤ m) (h2 : m ≤ 2 * h0) (h : (j : Rat) - 1 / 2 - 1 / 2 ^ 30 ≤ 16 * lam m) : (2 : Rat) ^ (2 * j - 1) ≤ m ^ 32 * slack := by
  have hp := h0_pos
  rcases Int.lt_or_le j (-7) with hj | hj
  · have a := pow_mono (Rat.le_of_lt hp) h1 32
    have b := Rat.mul_le_mul_of_nonneg_right a (Rat.le_of_lt slack_pos)
    have c : (2 : Rat) ^ (-17 : Int) ≤ h0 ^ 32 * slack := by decide +kernel
    have d := zp_mono (show 2 * j - 1 ≤ -17 by omega)
    exact Rat.le_trans d (Rat.le_trans c b)
  · rcases Int.lt_or_le 8 j with hj' | hj'
    · exfalso
      have a := lam_mono (show 0 < m by grind) h2
      have b : 16 * lam (2 * h0) < 42 / 5 := by decide +kernel
      have c : (9 : Rat) ≤ (j : Rat) := by have := Rat.intCast_le_intCast.2 (show (9 : Int) ≤ j by omega); exact this
      have d : (1 : Rat) / 2 ^ 30 < 1 / 100 := by decide +kernel
      grind
    · obtain ⟨i, hi⟩ : ∃ i : Nat, (i : Int) - 7 = j := ⟨(j + 7).toNat, by omega⟩
      have t := List.all_eq_true.1 rhos_there i (List.mem_range.2 (by omega))
      obtain ⟨⟨j', n⟩, hm, he⟩ := List.any_eq_true.1 t
      have e : j' = j := by simpa [hi] using he
      subst e
      have ok := List.all_eq_true.1 rhos_ok _ hm
      unfold rhoOk at ok
      simp only [Bool.and_eq_true, decide_eq_true_eq] at ok
      obtain ⟨o1, o2⟩ := ok
      rcases (Rat.le_total : (n : Rat) / 2 ^ 60 ≤ m ∨ m ≤ (n : Rat) / 2 ^ 60) with hc | hc
      · have hn : (0 : Rat) ≤ (n : Rat) / 2 ^ 60 := by
          rw [Rat.div_def]
          exact Rat.mul_nonneg Rat.natCast_nonneg (by decide +kernel)
        have a := pow_mono hn hc 32
        exact Rat.le_trans o2 (Rat.mul_le_mul_of_nonneg_right a (Rat.le_of_lt slack_pos))
      · exfalso
        have a := lam_mono (show 0 < m by grind) hc
        grind

theorem below {m : Rat} {j : Int} (h1 : h0 ≤ m) (h2 : m ≤ 2 * h0) (h : 16 * lam m ≤ (j : Rat) + 1 / 2 + 1 / 2 ^ 30) : m ^ 32 ≤ slack * (2 : Rat) ^ (2 * j + 1) := by
  have hp := h0_pos
  rcases Int.lt_or_le 7 j with hj | hj
  · have a := pow_mono (show 0 ≤ m by grind) h2 32
    have c : (2 * h0) ^ 32 ≤ slack * (2 : Rat) ^ (17 : Int) := by decide +kernel
    have d := zp_mono (show 17 ≤ 2 * j + 1 by omega)
    have e := Rat.mul_le_mul_of_nonneg_left d (Rat.le_of_lt slack_pos)
    exact Rat.le_trans a (Rat.le_trans c e)
  · rcases Int.lt_or_le j (-8) with hj' | hj'
    · exfalso
      have a := lam_mono hp h1
      have b : -42 / 5 < 16 * lam h0 := by decide +kernel
      have c : (j : Rat) ≤ (-9 : Rat) := by have := Rat.intCast_le_intCast.2 (show j ≤ (-9 : Int) by omega); exact this
      have d : (1 : Rat) / 2 ^ 30 < 1 / 100 := by decide +kernel
      grind
    · obtain ⟨i, hi⟩ : ∃ i : Nat, (i : Int) - 8 = j := ⟨(j + 8).toNat, by omega⟩
      have t := List.all_eq_true.1 sigs_there i (List.mem_range.2 (by omega))
      obtain ⟨⟨j', n⟩, hm, he⟩ := List.any_eq_true.1 t
      have e : j' = j := by simpa [hi] using he
      subst e
      have ok := List.all_eq_true.1 sigs_ok _ hm
      unfold sigOk at ok
      simp only [Bool.and_eq_true, decide_eq_true_eq] at ok
      obtain ⟨o1, o2⟩ := ok
      rcases (Rat.le_total : m ≤ (n : Rat) / 2 ^ 60 ∨ (n : Rat) / 2 ^ 60 ≤ m) with hc | hc
      · exact Rat.le_trans (pow_mono (show 0 ≤ m by grind) hc 32) o2
      · exfalso
        have hn : (0 : Rat) < (n : Rat) / 2 ^ 60 := by
          rcases Nat.eq_zero_or_pos n with h0 | h0
          · subst h0
            exfalso
            have : sigs.all (fun p => p.2 != 0) = true := by decide +kernel
            have := List.all_eq_true.1 this _ hm
            simp at this
          · rw [Rat.div_def]
            exact Rat.mul_pos (Rat.natCast_pos.2 h0) (by decide +kernel)
        have a := lam_mono hn hc
        grind

end Go.Proofs.Qxb6625468a.Fl
