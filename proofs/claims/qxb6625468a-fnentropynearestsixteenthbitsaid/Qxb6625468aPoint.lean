/-
  Where the cost is known exactly; the walk of entropyPointB1 and of the two size guards.
-/
import Derived.Test.Qxb6625468aEnt
namespace Go.Proofs.Qxb6625468a
open Go.ChangeShapes Go.WideShapes Go.ChangeAt Go.RowKit
set_option linter.unusedVariables false

/-! ### The plain facts -/
theorem pow32_le {a b : Nat} (h : a ≤ b) : a ^ 32 ≤ b ^ 32 := Nat.pow_le_pow_left h 32
theorem cost_low (T f : Nat) (hT : T < 2 ^ 49) (hf : 1 ≤ f) (hf' : f < 2 ^ 33) (h : T ≤ 2 * f) : Fl.cost T f = 16 := by
  obtain ⟨a, b, c, _⟩ := Fl.cost_main T f hT hf hf'
  generalize Fl.cost T f = k at *
  rcases Nat.lt_or_ge 16 k with hk | hk
  · exfalso
    have h1 := c hk
    have h2 := pow32_le h
    rw [Nat.mul_pow] at h2
    have h3 : 2 ^ (2 * 17 + 18) ≤ 2 ^ (2 * k + 18) := Nat.pow_le_pow_right (by decide) (by omega)
    have h4 : 0 < f ^ 32 := Nat.pow_pos (by omega)
    generalize f ^ 32 = F at *
    generalize T ^ 32 = TT at *
    have h5 := Nat.mul_le_mul_left F h3
    omega
  · omega
theorem cost_high (T f : Nat) (hT : T < 2 ^ 49) (hf : 1 ≤ f) (hf' : f < 2 ^ 33) (h : f * 2 ^ 15 ≤ T) : Fl.cost T f = 240 := by
  obtain ⟨a, b, _, d⟩ := Fl.cost_main T f hT hf hf'
  generalize Fl.cost T f = k at *
  rcases Nat.lt_or_ge k 240 with hk | hk
  · exfalso
    have h1 := d hk
    have h2 := pow32_le h
    rw [Nat.mul_pow] at h2
    obtain ⟨X, hX⟩ : ∃ X, X = 479 := ⟨_, rfl⟩
    have h3 : 2 ^ (2 * k + 1) ≤ 2 ^ X := Nat.pow_le_pow_right (by decide) (by omega)
    have h4 : 0 < f ^ 32 := Nat.pow_pos (by omega)
    generalize f ^ 32 = F at *
    generalize T ^ 32 = TT at *
    have h5 := Nat.mul_le_mul_left (F * (2 ^ 19 + 1)) h3
    have h6 := Nat.mul_le_mul_right (2 ^ 19) h2
    have h7 : F * (2 ^ 15) ^ 32 * 2 ^ 19 ≤ F * (2 ^ 19 + 1) * 2 ^ X := Nat.le_trans h6 (Nat.le_trans h1 h5)
    rw [Nat.mul_assoc, Nat.mul_assoc] at h7
    have h8 := Nat.le_of_mul_le_mul_left h7 h4
    subst hX
    exact absurd h8 (by decide +kernel)
  · omega
theorem cost_pow (f k : Nat) (hT : f * 2 ^ k < 2 ^ 49) (hf : 1 ≤ f) (hf' : f < 2 ^ 33) (hk : 2 ≤ k) (hk' : k < 15) : Fl.cost (f * 2 ^ k) f = 16 * k := by
  obtain ⟨a, b, c, d⟩ := Fl.cost_main (f * 2 ^ k) f hT hf hf'
  generalize Fl.cost (f * 2 ^ k) f = n at *
  have h4 : 0 < f ^ 32 := Nat.pow_pos (by omega)
  rw [Nat.mul_pow, ← Nat.pow_mul] at c d
  have up : 16 < n → n ≤ 16 * k := by
    intro hn
    have h1 := c hn
    rw [Nat.mul_assoc] at h1
    have h2 := Nat.le_of_mul_le_mul_left h1 h4
    have h3 : (2 : Nat) ^ 19 + 1 < 2 ^ 20 := by decide
    have h5 : 2 ^ (k * 32) * (2 ^ 19 + 1) < 2 ^ (k * 32) * 2 ^ 20 := Nat.mul_lt_mul_of_pos_left h3 (Nat.two_pow_pos _)
    rw [← Nat.pow_add] at h5
    have h6 := (Nat.pow_lt_pow_iff_right (a := 2) (by decide)).1 (Nat.lt_of_le_of_lt h2 h5)
    omega
  have dn : n < 240 → 16 * k ≤ n := by
    intro hn
    have h1 := d hn
    rw [Nat.mul_assoc, Nat.mul_assoc] at h1
    have h2 := Nat.le_of_mul_le_mul_left h1 h4
    have h3 : (2 : Nat) ^ 19 + 1 < 2 ^ 20 := by decide
    have h5 : (2 ^ 19 + 1) * 2 ^ (2 * n + 1) < 2 ^ 20 * 2 ^ (2 * n + 1) := Nat.mul_lt_mul_of_pos_right h3 (Nat.two_pow_pos _)
    rw [← Nat.pow_add] at h5 h2
    have h6 := (Nat.pow_lt_pow_iff_right (a := 2) (by decide)).1 (Nat.lt_of_le_of_lt h2 h5)
    omega
  rcases Nat.lt_or_ge 16 n with h1 | h1
  · have := up h1
    rcases Nat.lt_or_ge n 240 with h2 | h2
    · have := dn h2; omega
    · omega
  · have := dn (by omega); omega

/-! ### The walks -/
/-- What entropyPointB1 answers: if 'yes', the cost. -/
def Point (c : Nat) (e : Ending) : Prop := ∃ (v : Int) (ok : Bool), e = .returned (.tuple #[.int .u32 v, .bool ok]) ∧ (ok = true → v = (c : Int))
theorem Point.yes {c : Nat} {v : Int} (h : v = (c : Int)) : Point c (.returned (.tuple #[.int .u32 v, .bool true])) := ⟨v, true, rfl, fun _ => h⟩
theorem Point.no {c : Nat} {v : Int} : Point c (.returned (.tuple #[.int .u32 v, .bool false])) := ⟨v, false, rfl, fun h => by cases h⟩

set_option maxHeartbeats 1000000 in
theorem point_calls (T f : Nat) (hT : T < 2 ^ 49) (hf : 1 ≤ f) (hf' : f < 2 ^ 32) (w : World) :
    Calls Try.prog 13 #[.int .u64 (T : Int), .int .u64 (f : Int)] w fun e w' => Point (Fl.cost T f) e ∧ w = w' := by
  have HL : Hid (T ≤ 2 * f → Fl.cost T f = 16) := cost_low T f hT hf (by omega)
  have HH : Hid (f * 2 ^ 15 ≤ T → Fl.cost T f = 240) := cost_high T f hT hf (by omega)
  have HP : Hid (∀ k, 2 ≤ k → k < 15 → f * 2 ^ k = T → Fl.cost T f = 16 * k) := fun k h1 h2 h3 => by subst h3; exact cost_pow f k hT hf (by omega) h1 h2
  generalize Fl.cost T f = c at *
  by_cases h1 : T ≤ 2 * f
  · have h1' := HL.out h1
    clear HL HH HP
    subst h1'
    go_enter Try.func13, Try.ntmps13
    go_wp2
    go_ret2
    exact ⟨Point.yes rfl, rfl⟩
  · by_cases h2 : f * 32768 ≤ T
    · have h2' := HH.out h2
      clear HL HH HP
      subst h2'
      go_enter Try.func13, Try.ntmps13
      go_wp2
      go_ret2
      exact ⟨Point.yes rfl, rfl⟩
    · clear HL HH
      go_enter Try.func13, Try.ntmps13
      go_wp2
      go_loop [6] (fun i => ∃ k : Nat, 2 ≤ k ∧ k ≤ 15 ∧ i = .int .i64 k) (fun i => 15 - (intOf i).toNat)
      case atStart => exact ⟨2, by omega, by omega, rfl⟩
      case round =>
        obtain ⟨k, hk, hk', rfl⟩ := hrel
        by_cases hlt : k < 15
        · have hp := HP.out k hk hlt
          have hcase : k = 2 ∨ k = 3 ∨ k = 4 ∨ k = 5 ∨ k = 6 ∨ k = 7 ∨ k = 8 ∨ k = 9 ∨ k = 10 ∨ k = 11 ∨ k = 12 ∨ k = 13 ∨ k = 14 := by omega
          clear HP
          rcases hcase with rfl | rfl | rfl | rfl | rfl | rfl | rfl | rfl | rfl | rfl | rfl | rfl | rfl
          · by_cases he : f * 4 = T
            · have hc := hp he
              subst he hc
              clear hp
              go_wp2
              go_ret2
              exact ⟨Point.yes rfl, rfl⟩
            · clear hp
              have hd : ((f : Int) * 4 == (T : Int)) = false := beq_eq_false_iff_ne.2 (by omega)
              go_wp2
              go_round
              case rel => exact ⟨3, by omega, by omega, rfl⟩
              case measure => simp [intOf]
          · by_cases he : f * 8 = T
            · have hc := hp he
              subst he hc
              clear hp
              go_wp2
              go_ret2
              exact ⟨Point.yes rfl, rfl⟩
            · clear hp
              have hd : ((f : Int) * 8 == (T : Int)) = false := beq_eq_false_iff_ne.2 (by omega)
              go_wp2
              go_round
              case rel => exact ⟨4, by omega, by omega, rfl⟩
              case measure => simp [intOf]
          · by_cases he : f * 16 = T
            · have hc := hp he
              subst he hc
              clear hp
              go_wp2
              go_ret2
              exact ⟨Point.yes rfl, rfl⟩
            · clear hp
              have hd : ((f : Int) * 16 == (T : Int)) = false := beq_eq_false_iff_ne.2 (by omega)
              go_wp2
              go_round
              case rel => exact ⟨5, by omega, by omega, rfl⟩
              case measure => simp [intOf]
          · by_cases he : f * 32 = T
            · have hc := hp he
              subst he hc
              clear hp
              go_wp2
              go_ret2
              exact ⟨Point.yes rfl, rfl⟩
            · clear hp
              have hd : ((f : Int) * 32 == (T : Int)) = false := beq_eq_false_iff_ne.2 (by omega)
              go_wp2
              go_round
              case rel => exact ⟨6, by omega, by omega, rfl⟩
              case measure => simp [intOf]
          · by_cases he : f * 64 = T
            · have hc := hp he
              subst he hc
              clear hp
              go_wp2
              go_ret2
              exact ⟨Point.yes rfl, rfl⟩
            · clear hp
              have hd : ((f : Int) * 64 == (T : Int)) = false := beq_eq_false_iff_ne.2 (by omega)
              go_wp2
              go_round
              case rel => exact ⟨7, by omega, by omega, rfl⟩
              case measure => simp [intOf]
          · by_cases he : f * 128 = T
            · have hc := hp he
              subst he hc
              clear hp
              go_wp2
              go_ret2
              exact ⟨Point.yes rfl, rfl⟩
            · clear hp
              have hd : ((f : Int) * 128 == (T : Int)) = false := beq_eq_false_iff_ne.2 (by omega)
              go_wp2
              go_round
              case rel => exact ⟨8, by omega, by omega, rfl⟩
              case measure => simp [intOf]
          · by_cases he : f * 256 = T
            · have hc := hp he
              subst he hc
              clear hp
              go_wp2
              go_ret2
              exact ⟨Point.yes rfl, rfl⟩
            · clear hp
              have hd : ((f : Int) * 256 == (T : Int)) = false := beq_eq_false_iff_ne.2 (by omega)
              go_wp2
              go_round
              case rel => exact ⟨9, by omega, by omega, rfl⟩
              case measure => simp [intOf]
          · by_cases he : f * 512 = T
            · have hc := hp he
              subst he hc
              clear hp
              go_wp2
              go_ret2
              exact ⟨Point.yes rfl, rfl⟩
            · clear hp
              have hd : ((f : Int) * 512 == (T : Int)) = false := beq_eq_false_iff_ne.2 (by omega)
              go_wp2
              go_round
              case rel => exact ⟨10, by omega, by omega, rfl⟩
              case measure => simp [intOf]
          · by_cases he : f * 1024 = T
            · have hc := hp he
              subst he hc
              clear hp
              go_wp2
              go_ret2
              exact ⟨Point.yes rfl, rfl⟩
            · clear hp
              have hd : ((f : Int) * 1024 == (T : Int)) = false := beq_eq_false_iff_ne.2 (by omega)
              go_wp2
              go_round
              case rel => exact ⟨11, by omega, by omega, rfl⟩
              case measure => simp [intOf]
          · by_cases he : f * 2048 = T
            · have hc := hp he
              subst he hc
              clear hp
              go_wp2
              go_ret2
              exact ⟨Point.yes rfl, rfl⟩
            · clear hp
              have hd : ((f : Int) * 2048 == (T : Int)) = false := beq_eq_false_iff_ne.2 (by omega)
              go_wp2
              go_round
              case rel => exact ⟨12, by omega, by omega, rfl⟩
              case measure => simp [intOf]
          · by_cases he : f * 4096 = T
            · have hc := hp he
              subst he hc
              clear hp
              go_wp2
              go_ret2
              exact ⟨Point.yes rfl, rfl⟩
            · clear hp
              have hd : ((f : Int) * 4096 == (T : Int)) = false := beq_eq_false_iff_ne.2 (by omega)
              go_wp2
              go_round
              case rel => exact ⟨13, by omega, by omega, rfl⟩
              case measure => simp [intOf]
          · by_cases he : f * 8192 = T
            · have hc := hp he
              subst he hc
              clear hp
              go_wp2
              go_ret2
              exact ⟨Point.yes rfl, rfl⟩
            · clear hp
              have hd : ((f : Int) * 8192 == (T : Int)) = false := beq_eq_false_iff_ne.2 (by omega)
              go_wp2
              go_round
              case rel => exact ⟨14, by omega, by omega, rfl⟩
              case measure => simp [intOf]
          · by_cases he : f * 16384 = T
            · have hc := hp he
              subst he hc
              clear hp
              go_wp2
              go_ret2
              exact ⟨Point.yes rfl, rfl⟩
            · clear hp
              have hd : ((f : Int) * 16384 == (T : Int)) = false := beq_eq_false_iff_ne.2 (by omega)
              go_wp2
              go_round
              case rel => exact ⟨15, by omega, by omega, rfl⟩
              case measure => simp [intOf]
        · go_wp2
          go_ret2
          exact ⟨Point.no, rfl⟩

theorem bytes12_calls (a : Option Addr) (n c : Nat) (p : Int) (w : World) (hn : n ≤ 65536) :
    Calls Try.prog 12 #[.slice a n c, .int .i64 p] w fun e w' => e = .returned (.bool true) ∧ w = w' := by
  go_enter Try.func12, Try.ntmps12
  go_wp2
  go_ret
  exact ⟨rfl, rfl⟩
theorem bytes12_any (a : Option Addr) (n c : Nat) (p : Int) (w : World) (hn : n ≤ maxLen) :
    Calls Try.prog 12 #[.slice a n c, .int .i64 p] w fun e w' => (∃ b, e = .returned (.bool b)) ∧ w = w' := by
  unfold maxLen at hn
  by_cases h : n ≤ 1048576
  · go_enter Try.func12, Try.ntmps12
    go_wp2
    go_ret
    exact ⟨⟨_, rfl⟩, rfl⟩
  · go_enter Try.func12, Try.ntmps12
    go_wp2
    go_ret
    exact ⟨⟨_, rfl⟩, rfl⟩
end Go.Proofs.Qxb6625468a
