/-
  The walk of bnCmpB1.
-/
import Derived.Test.Qxb6625468aShl
namespace Go.Proofs.Qxb6625468a
open Go.ChangeShapes Go.WideShapes Go.ChangeAt Go.RowKit
set_option linter.unusedVariables false

theorem bnv_split (l : List Nat) (i : Nat) (hi : i < l.length) : bnv l = bnv (l.take i) + l.getD i 0 * 2 ^ (32 * i) + 2 ^ (32 * (i + 1)) * bnv (l.drop (i + 1)) := by
  have h1 := bnv_append (l.take (i + 1)) (l.drop (i + 1))
  rw [List.take_append_drop, List.length_take, Nat.min_eq_left (by omega), bnv_take_succ l i hi] at h1
  exact h1
theorem bnv_top (l : List Nat) (h : l.getD (l.length - 1) 0 ≠ 0) : 2 ^ (32 * (l.length - 1)) ≤ bnv l := by
  by_cases h0 : l.length = 0
  · have := List.eq_nil_of_length_eq_zero h0
    subst this
    simp at h
  · rw [bnv_split l (l.length - 1) (by omega)]
    have h1 : 1 * 2 ^ (32 * (l.length - 1)) ≤ l.getD (l.length - 1) 0 * 2 ^ (32 * (l.length - 1)) := Nat.mul_le_mul_right _ (by omega)
    omega
theorem bnv_shorter (a b : List Nat) (ha : Limbs a) (hl : a.length < b.length) (hb : b = [] ∨ b.getD (b.length - 1) 0 ≠ 0) : bnv a < bnv b := by
  rcases hb with hb | hb
  · subst hb; simp at hl
  · have h1 := bnv_lt a ha
    have h2 := bnv_top b hb
    have h3 : 2 ^ (32 * a.length) ≤ 2 ^ (32 * (b.length - 1)) := Nat.pow_le_pow_right (by decide) (by omega)
    omega
theorem bnv_less (a b : List Nat) (ha : Limbs a) (i : Nat) (hi : i < a.length) (hl : a.length = b.length) (he : a.drop (i + 1) = b.drop (i + 1)) (hlt : a.getD i 0 < b.getD i 0) : bnv a < bnv b := by
  rw [bnv_split a i hi, bnv_split b i (by omega), he]
  have h1 := bnv_lt (a.take i) (limbs_take ha i)
  rw [List.length_take, Nat.min_eq_left (by omega)] at h1
  have h2 : (a.getD i 0 + 1) * 2 ^ (32 * i) ≤ b.getD i 0 * 2 ^ (32 * i) := Nat.mul_le_mul_right _ hlt
  rw [Nat.add_mul, Nat.one_mul] at h2
  omega
theorem drop_step (a b : List Nat) (i : Nat) (hi : i < a.length) (hi' : i < b.length) (he : a.drop (i + 1) = b.drop (i + 1)) (hd : a.getD i 0 = b.getD i 0) : a.drop i = b.drop i := by
  rw [List.drop_eq_getElem_cons hi, List.drop_eq_getElem_cons hi', he]
  have h1 : a[i] = b[i] := by simpa [hi, hi'] using hd
  rw [h1]

/-- What a comparison answers. -/
def Compares (x y : Nat) (e : Ending) : Prop := ∃ s : Int, e = .returned (.int .i64 s) ∧ (s < 0 → x < y) ∧ (0 < s → y < x)
theorem Compares.lt {x y : Nat} (h : x < y) : Compares x y (.returned (.int .i64 (-1))) := ⟨-1, rfl, fun _ => h, fun h => by omega⟩
theorem Compares.gt {x y : Nat} (h : y < x) : Compares x y (.returned (.int .i64 1)) := ⟨1, rfl, (fun h => by omega), fun _ => h⟩
theorem Compares.eq {x y : Nat} : Compares x y (.returned (.int .i64 0)) := ⟨0, rfl, (fun h => by omega), fun h => by omega⟩
theorem below_N {w : World} (q : Nat) : Below w.heap.size w (w.drewN q) := below_drewN (Below.refl _ _) q

set_option maxHeartbeats 1000000 in
set_option maxRecDepth 100000 in
theorem cmp_calls (a b : Option Addr) (na ca nb cb : Nat) (al bl : List Nat) (w : World) (ha : Bn w a na ca al) (hb : Bn w b nb cb bl) :
    Calls Try.prog 9 #[.slice a na ca, .slice b nb cb] w fun e w' => Compares (bnv al) (bnv bl) e ∧ Below w.heap.size w w' := by
  go_enter Try.func9, Try.ntmps9
  go_wp2_with fail
  refine (trim_calls a na ca al _ ha).mono ?_
  rintro e w1 ⟨⟨m, hm, rfl, hTa⟩, rfl⟩
  go_wp2_with fail
  refine (trim_calls b nb cb bl _ hb).mono ?_
  rintro e w1 ⟨⟨k, hk, rfl, hTb⟩, rfl⟩
  have ha' := ha.take m hm
  have hb' := hb.take k hk
  obtain ⟨va, ta⟩ := hTa
  obtain ⟨vb, tb⟩ := hTb
  have VA : Hid (bnv (al.take m) = bnv al) := va
  have VB : Hid (bnv (bl.take k) = bnv bl) := vb
  clear ha hb va vb
  have hm' : m ≤ 100000 := Nat.le_trans ha'.cap ha'.capB
  have hk' : k ≤ 100000 := Nat.le_trans hb'.cap hb'.capB
  generalize al.take m = xs at *
  generalize bl.take k = ys at *
  by_cases hmk : m = k
  · subst hmk
    have hg : ((m : Int) != (m : Int)) = false := by simp
    have HX : Hid (xs.length = m) := ha'.len
    have HY : Hid (ys.length = m) := hb'.len
    have hlx := ha'.limbs
    have hly := hb'.limbs
    go_wp2_with fail
    go_loopw [5] (fun i wr => ∃ (q j : Nat), wr = w.drewN q ∧ j ≤ m ∧ i = .int .i64 ((j : Int) - 1) ∧ xs.drop j = ys.drop j) (fun i _ => (intOf i + 1).toNat)
    case atStart => exact ⟨0, m, rfl, Nat.le_refl _, rfl, by rw [List.drop_eq_nil_of_le (by rw [HX.out]; exact Nat.le_refl _), List.drop_eq_nil_of_le (by rw [HY.out]; exact Nat.le_refl _)]⟩
    case round =>
      obtain ⟨q, j, rfl, hj, rfl, he⟩ := hrel
      have HE : Hid (xs.drop j = ys.drop j) := he
      clear he
      by_cases hj0 : j = 0
      · subst hj0
        have hval : bnv xs = bnv ys := by have := HE.out; simp at this; rw [this]
        go_wp2
        go_ret
        exact ⟨Compares.eq, below_N q⟩
      · obtain ⟨i, rfl⟩ : ∃ i, j = i + 1 := ⟨j - 1, by omega⟩
        obtain ⟨A, rfl, hcA⟩ := ha'.cell (show i < m by omega)
        obtain ⟨B, rfl, hcB⟩ := hb'.cell (show i < m by omega)
        have hcx := hcA i (by omega)
        have hcy := hcB i (by omega)
        have hbx := limbs_getD hlx i
        have hby := limbs_getD hly i
        rw [show (((i + 1 : Nat) : Int) - 1) = (i : Int) by omega]
        have him : (i : Int) < (m : Int) := by omega
        by_cases hd : xs.getD i 0 = ys.getD i 0
        · have HS : Hid (xs.drop i = ys.drop i) := drop_step xs ys i (by rw [HX.out]; omega) (by rw [HY.out]; omega) HE.out hd
          rw [hd] at hcx
          generalize ys.getD i 0 = y at *
          clear hcA hcB ha' hb' hd
          go_wp2_with fail
          go_quiet (fail)
          go_wp2
          go_roundw
          case rel => exact ⟨q + nq, i, rfl, by omega, rfl, HS.out⟩
          case measure => simp [intOf]
        · by_cases hlt : xs.getD i 0 < ys.getD i 0
          · have hv : bnv xs < bnv ys := bnv_less xs ys hlx i (by rw [HX.out]; omega) (by rw [HX.out, HY.out]) HE.out hlt
            have HC : Hid (bnv al < bnv bl) := by rw [← VA.out, ← VB.out]; exact hv
            generalize xs.getD i 0 = x at *
            generalize ys.getD i 0 = y at *
            have hne : ((x : Int) != (y : Int)) = true := by rw [bne_iff_ne]; omega
            clear hcA hcB ha' hb' hd hv
            go_wp2_with fail
            go_quiet (fail)
            go_wp2_with fail
            go_quiet (fail)
            go_wp2
            go_ret
            exact ⟨Compares.lt HC.out, below_drewN (below_drewN (below_drewN (Below.refl _ _) _) _) _⟩
          · have hv : bnv ys < bnv xs := bnv_less ys xs hly i (by rw [HY.out]; omega) (by rw [HX.out, HY.out]) HE.out.symm (by omega)
            have HC : Hid (bnv bl < bnv al) := by rw [← VA.out, ← VB.out]; exact hv
            generalize xs.getD i 0 = x at *
            generalize ys.getD i 0 = y at *
            have hne : ((x : Int) != (y : Int)) = true := by rw [bne_iff_ne]; omega
            clear hcA hcB ha' hb' hd hv
            go_wp2_with fail
            go_quiet (fail)
            go_wp2_with fail
            go_quiet (fail)
            go_wp2
            go_ret
            exact ⟨Compares.gt HC.out, below_drewN (below_drewN (below_drewN (Below.refl _ _) _) _) _⟩
  · have hg : ((m : Int) != (k : Int)) = true := by rw [bne_iff_ne]; omega
    by_cases hlt : m < k
    · have hv : bnv xs < bnv ys := bnv_shorter xs ys ha'.limbs (by rw [ha'.len, hb'.len]; exact hlt) tb
      have HC : Hid (bnv al < bnv bl) := by rw [← VA.out, ← VB.out]; exact hv
      clear ha' hb' hv ta tb
      go_wp2
      go_ret
      exact ⟨Compares.lt HC.out, Below.refl _ _⟩
    · have hv : bnv ys < bnv xs := bnv_shorter ys xs hb'.limbs (by rw [ha'.len, hb'.len]; omega) ta
      have HC : Hid (bnv bl < bnv al) := by rw [← VA.out, ← VB.out]; exact hv
      clear ha' hb' hv ta tb
      go_wp2
      go_ret
      exact ⟨Compares.gt HC.out, Below.refl _ _⟩
end Go.Proofs.Qxb6625468a
