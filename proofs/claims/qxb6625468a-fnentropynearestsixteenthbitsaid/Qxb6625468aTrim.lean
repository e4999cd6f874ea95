/-
  The walks of bnTrimB1 and bnFromB1.
-/
import Derived.Test.Qxb6625468aBn
namespace Go.Proofs.Qxb6625468a
open Go.ChangeShapes Go.WideShapes Go.ChangeAt Go.RowKit
set_option linter.unusedVariables false

/-- What a trimmed number is to what it was trimmed of. -/
structure Trimmed (l m : List Nat) : Prop where
  val : bnv m = bnv l
  top : m = [] ∨ m.getD (m.length - 1) 0 ≠ 0
theorem trimmed_of (l : List Nat) (m : Nat) (hm : m ≤ l.length) (hz : ∀ j, m ≤ j → l.getD j 0 = 0) (ht : m = 0 ∨ l.getD (m - 1) 0 ≠ 0) : Trimmed l (l.take m) := by
  refine ⟨bnv_take l m hz, ?_⟩
  rcases ht with rfl | ht
  · left; simp
  · by_cases h0 : m = 0
    · left; simp [h0]
    · right
      rw [List.length_take, Nat.min_eq_left hm, List.getD_eq_getElem?_getD, List.getElem?_take, if_pos (by omega), ← List.getD_eq_getElem?_getD]
      exact ht

set_option maxHeartbeats 400000 in
theorem trim_calls (a : Option Addr) (n c : Nat) (l : List Nat) (w : World) (h : Bn w a n c l) :
    Calls Try.prog 15 #[.slice a n c] w fun e w' => (∃ m, m ≤ n ∧ e = .returned (.slice a m c) ∧ Trimmed l (l.take m)) ∧ w = w' := by
  have hcap := h.cap
  have hcB := h.capB
  have HL : Hid (l.length = n) := h.len
  go_enter Try.func15, Try.ntmps15
  go_wp2
  go_loop [3] (fun i => ∃ m : Nat, m ≤ n ∧ i = .int .i64 m ∧ ∀ j, m ≤ j → l.getD j 0 = 0) (fun i => (intOf i).toNat)
  case atStart => exact ⟨n, Nat.le_refl _, rfl, fun j hj => by rw [List.getD_eq_getElem?_getD, List.getElem?_eq_none (by rw [HL.out]; exact hj)]; rfl⟩
  case round =>
    obtain ⟨m, hm, rfl, hz⟩ := hrel
    have HZ : Hid (∀ j, m ≤ j → l.getD j 0 = 0) := hz
    clear hz
    by_cases h0 : m = 0
    · subst h0
      have hT : Trimmed l (l.take 0) := trimmed_of l 0 (Nat.zero_le _) HZ.out (Or.inl rfl)
      have hg : decide ((0 : Int) < ((0 : Nat) : Int)) = false := by decide
      cases a with
      | none =>
        have hc0 := h.nil rfl
        subst hc0
        go_wp2
        go_ret
        exact ⟨⟨0, Nat.zero_le _, rfl, hT⟩, rfl⟩
      | some x =>
        go_wp2
        go_ret
        exact ⟨⟨0, Nat.zero_le _, rfl, hT⟩, rfl⟩
    · obtain ⟨b, rfl, hcell⟩ := h.cell (show m - 1 < n by omega)
      have hc1 := hcell (m - 1) (by omega)
      have hpos : (0 : Int) < (m : Int) := by omega
      by_cases hd : l.getD (m - 1) 0 = 0
      · rw [hd] at hc1
        rw [show ((0 : Nat) : Int) = 0 from rfl] at hc1
        clear hcell h
        go_wp2
        go_round
        case rel => exact ⟨m - 1, by omega, by go_num, fun j hj => by
          rcases Nat.lt_or_ge j m with h1 | h1
          · rw [show j = m - 1 by omega]; exact hd
          · exact HZ.out j h1⟩
        case measure => simp [intOf]; omega
      · have hT : Trimmed l (l.take m) := trimmed_of l m (by rw [HL.out]; exact hm) HZ.out (Or.inr hd)
        have HT : Hid (Trimmed l (l.take m)) := hT
        generalize l.getD (m - 1) 0 = d at *
        have hd' : ((d : Int) == 0) = false := beq_eq_false_iff_ne.2 (by omega)
        clear hcell h hT
        go_wp2
        go_ret
        exact ⟨⟨m, hm, rfl, HT.out⟩, rfl⟩

/-- What a function that answers a number answers. -/
def GivesBn (w : World) (v B : Nat) (e : Ending) (w' : World) : Prop := ∃ a n c l, e = .returned (.slice a n c) ∧ Bn w' a n c l ∧ bnv l = v ∧ n ≤ B ∧ Below w.heap.size w w'

theorem made_bn {w : World} {b : Nat} {l : List Nat} (h : U32s w b l) (hl : Limbs l) (hB : l.length ≤ 100000) : Bn w (some ⟨b, 0, none⟩) l.length l.length l :=
  ⟨rfl, Nat.le_refl _, hB, (fun h => by cases h), hl, Or.inr ⟨b, [], rfl, by rw [List.append_nil]; exact h⟩⟩

set_option maxHeartbeats 400000 in
theorem from_calls (x : Nat) (hx : x < 2 ^ 64) (w : World) : Calls Try.prog 8 #[.int .u64 (x : Int)] w fun e w' => GivesBn w x 2 e w' := by
  have hmk := run_make32 2 (by decide)
  rw [show ((2 : Nat) : Int) = 2 from rfl] at hmk
  have hc0 := fun i (hi : i < 2) => (U32s.made w (zeros 2)).cell (i := i) (by rw [zeros_length]; exact hi)
  have hf0 := (U32s.made w (zeros 2)).free
  have hlm : Limbs [x % 2 ^ 32, x / 2 ^ 32] := by
    intro d hd
    simp at hd
    omega
  have e : ((vals (zeros 2)).setIfInBounds 0 (Value.int .u32 ((x : Int) % 4294967296))).setIfInBounds 1 (Value.int .u32 ((x : Int) / 4294967296)) = vals [x % 2 ^ 32, x / 2 ^ 32] := by
    simp [vals, zeros, List.replicate_succ]
  have HE : Hid _ := e
  have hv : bnv [x % 2 ^ 32, x / 2 ^ 32] = x := by
    simp only [bnv]
    omega
  have HV : Hid _ := hv
  clear e hv
  go_enter Try.func8, Try.ntmps8
  go_wp2_with fail
  rw [HE.out]
  have hb := made_bn (U32s.made w [x % 2 ^ 32, x / 2 ^ 32]) hlm (by simp)
  refine (trim_calls _ 2 2 [x % 2 ^ 32, x / 2 ^ 32] _ hb).mono ?_
  rintro e w1 ⟨⟨m, hm, rfl, hT⟩, rfl⟩
  have hb' := hb.take m hm
  go_wp2
  go_ret
  exact ⟨_, m, 2, _, rfl, hb', hT.val.trans HV.out, hm, (Below.refl _ _).alloc (Nat.le_refl _) _⟩
end Go.Proofs.Qxb6625468a
