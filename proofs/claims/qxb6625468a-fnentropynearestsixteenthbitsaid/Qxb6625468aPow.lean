/-
  The walks of bnPow32B1, bnShlB1, bnCmpB1.
-/
import Derived.Test.Qxb6625468aMul
namespace Go.Proofs.Qxb6625468a
open Go.ChangeShapes Go.WideShapes Go.ChangeAt Go.RowKit
set_option linter.unusedVariables false

theorem pow_sq (v k : Nat) : v ^ (2 ^ k) * v ^ (2 ^ k) = v ^ (2 ^ (k + 1)) := by
  rw [← Nat.pow_add, Nat.pow_succ 2 k]
  congr 1
  omega

set_option maxHeartbeats 1000000 in
set_option maxRecDepth 100000 in
theorem pow32_calls (a : Option Addr) (n c : Nat) (l : List Nat) (w : World) (h : Bn w a n c l) (hn : n ≤ 2) :
    Calls Try.prog 7 #[.slice a n c] w fun e w' => GivesBn w (bnv l ^ 32) 64 e w' := by
  go_enter Try.func7, Try.ntmps7
  go_wp2
  go_loopw [0, 3] (fun s i wr => ∃ (k : Nat) (a' : Option Addr) (n' c' : Nat) (l' : List Nat), k ≤ 5 ∧ i = .int .i64 k ∧ s = .slice a' n' c' ∧ Bn wr a' n' c' l' ∧ bnv l' = bnv l ^ (2 ^ k) ∧ n' ≤ 2 * 2 ^ k ∧ Below w.heap.size w wr) (fun _ i _ => 5 - (intOf i).toNat)
  case atStart => exact ⟨0, a, n, c, l, by omega, rfl, rfl, h, by simp, by omega, Below.refl _ _⟩
  case round =>
    obtain ⟨k, a', n', c', l', hk, rfl, rfl, hb, hv, hn', hbel⟩ := hrel
    have HV : Hid (bnv l' = bnv l ^ (2 ^ k)) := hv
    have HN : Hid (n' ≤ 2 * 2 ^ k) := hn'
    clear hv hn'
    by_cases hlt : k < 5
    · have hn1 : n' ≤ 32 := by
        have : 2 ^ k ≤ 2 ^ 4 := Nat.pow_le_pow_right (by decide) (by omega)
        have := HN.out
        omega
      go_wp2_with fail
      refine (mul_calls a' a' n' c' n' c' l' l' _ hb hb (by omega) (by omega)).mono ?_
      rintro e w1 ⟨a2, n2, c2, l2, rfl, hb2, hv2, hn2, hbel2⟩
      have HV2 : Hid (bnv l2 = bnv l ^ (2 ^ (k + 1))) := by rw [← pow_sq, ← HV.out]; exact hv2
      have HN2 : Hid (n2 ≤ 2 * 2 ^ (k + 1)) := by
        have := HN.out
        have h3 : 2 ^ (k + 1) = 2 * 2 ^ k := by rw [Nat.pow_succ, Nat.mul_comm]
        show n2 ≤ 2 * 2 ^ (k + 1)
        omega
      have hbel3 := hbel.trans (hbel2.mono hbel.size)
      clear hb hv2 hn2 hbel2 hbel hn1
      go_wp2
      go_roundw
      case rel => exact ⟨k + 1, a2, n2, c2, l2, by omega, by go_num, rfl, hb2, HV2.out, HN2.out, hbel3⟩
      case measure => simp [intOf]; omega
    · have hk5 : k = 5 := by omega
      subst hk5
      go_wp2
      go_ret
      exact ⟨a', n', c', l', rfl, hb, HV.out, by have := HN.out; omega, hbel⟩
end Go.Proofs.Qxb6625468a
