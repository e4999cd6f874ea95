/-
  Natural numbers as little-endian rows of 32-bit limbs. Plain facts, and how such a number lies in memory.
-/
import Derived.Test.Qxb6625468aMake
namespace Go.Proofs.Qxb6625468a
open Go.RowKit
set_option linter.unusedVariables false

/-- The number. -/
def bnv : List Nat → Nat
  | [] => 0
  | d :: l => d + 2 ^ 32 * bnv l
/-- Each limb fits. -/
def Limbs (l : List Nat) : Prop := ∀ d ∈ l, d < 2 ^ 32

theorem bnv_append (l m : List Nat) : bnv (l ++ m) = bnv l + 2 ^ (32 * l.length) * bnv m := by
  induction l with
  | nil => simp [bnv]
  | cons d l ih =>
    simp only [List.cons_append, bnv, ih, List.length_cons]
    rw [show 32 * (l.length + 1) = 32 + 32 * l.length by omega, Nat.pow_add, Nat.mul_assoc, Nat.mul_add, Nat.add_assoc]
theorem bnv_zeros (n : Nat) : bnv (zeros n) = 0 := by
  induction n with
  | zero => rfl
  | succ n ih =>
    have : zeros (n + 1) = 0 :: zeros n := by simp [zeros, List.replicate_succ]
    rw [this, bnv, ih]
theorem bnv_lt (l : List Nat) (h : Limbs l) : bnv l < 2 ^ (32 * l.length) := by
  induction l with
  | nil => simp [bnv]
  | cons d l ih =>
    have h1 := ih (fun x hx => h x (List.mem_cons_of_mem _ hx))
    have h2 := h d List.mem_cons_self
    simp only [bnv, List.length_cons]
    rw [show 32 * (l.length + 1) = 32 + 32 * l.length by omega, Nat.pow_add]
    have h3 : 2 ^ 32 * (bnv l + 1) ≤ 2 ^ 32 * 2 ^ (32 * l.length) := Nat.mul_le_mul_left _ h1
    omega
theorem bnv_set (l : List Nat) (k v : Nat) (hk : k < l.length) : bnv (l.set k v) + l.getD k 0 * 2 ^ (32 * k) = bnv l + v * 2 ^ (32 * k) := by
  induction l generalizing k with
  | nil => simp at hk
  | cons d l ih =>
    cases k with
    | zero =>
      simp only [List.set_cons_zero, bnv, List.getD_cons_zero, Nat.mul_zero, Nat.pow_zero, Nat.mul_one]
      omega
    | succ k =>
      have := ih k (by simpa using hk)
      simp only [List.set_cons_succ, bnv, List.getD_cons_succ]
      rw [show 32 * (k + 1) = 32 + 32 * k by omega, Nat.pow_add]
      have e1 : l.getD k 0 * (2 ^ 32 * 2 ^ (32 * k)) = 2 ^ 32 * (l.getD k 0 * 2 ^ (32 * k)) := by rw [← Nat.mul_assoc, Nat.mul_comm (l.getD k 0), Nat.mul_assoc]
      have e2 : v * (2 ^ 32 * 2 ^ (32 * k)) = 2 ^ 32 * (v * 2 ^ (32 * k)) := by rw [← Nat.mul_assoc, Nat.mul_comm v, Nat.mul_assoc]
      rw [e1, e2]
      generalize l.getD k 0 * 2 ^ (32 * k) = A at *
      generalize v * 2 ^ (32 * k) = B at *
      omega
theorem bnv_take_succ (l : List Nat) (k : Nat) (hk : k < l.length) : bnv (l.take (k + 1)) = bnv (l.take k) + l.getD k 0 * 2 ^ (32 * k) := by
  rw [List.take_succ_eq_append_getElem hk, bnv_append, List.length_take, Nat.min_eq_left (by omega)]
  simp [bnv, hk, Nat.mul_comm]
theorem limbs_set {l : List Nat} (h : Limbs l) (k v : Nat) (hv : v < 2 ^ 32) : Limbs (l.set k v) := by
  intro d hd
  rcases List.mem_or_eq_of_mem_set hd with h1 | h1
  · exact h d h1
  · omega
theorem limbs_getD {l : List Nat} (h : Limbs l) (k : Nat) : l.getD k 0 < 2 ^ 32 := by
  by_cases hk : k < l.length
  · rw [show l.getD k 0 = l[k] by simp [hk]]
    exact h _ (List.getElem_mem hk)
  · rw [List.getD_eq_getElem?_getD, List.getElem?_eq_none (Nat.le_of_not_lt hk)]
    decide
theorem limbs_zeros (n : Nat) : Limbs (zeros n) := by
  intro d hd
  have := List.eq_of_mem_replicate hd
  omega
theorem limbs_take {l : List Nat} (h : Limbs l) (k : Nat) : Limbs (l.take k) := fun d hd => h d (List.mem_of_mem_take hd)
/-- The limbs from k on are noughts: the number is that of the first k. -/
theorem bnv_take (l : List Nat) (k : Nat) (h : ∀ j, k ≤ j → l.getD j 0 = 0) : bnv (l.take k) = bnv l := by
  have : bnv (l.drop k) = 0 := by
    have hz : ∀ d ∈ l.drop k, d = 0 := by
      intro d hd
      obtain ⟨i, hi, rfl⟩ := List.getElem_of_mem hd
      have h1 := h (k + i) (by omega)
      rw [List.getElem_drop]
      have hi' : k + i < l.length := by simp at hi; omega
      simpa [hi'] using h1
    generalize l.drop k = m at hz
    induction m with
    | nil => rfl
    | cons d m ih =>
      rw [bnv, hz d List.mem_cons_self, ih (fun x hx => hz x (List.mem_cons_of_mem _ hx))]
  have e := bnv_append (l.take k) (l.drop k)
  rw [List.take_append_drop, this] at e
  omega

/-! ### In memory -/
/-- The slice (a, n, c) holds the limbs l: at the head of a block of its own; or it is empty. -/
structure Bn (w : World) (a : Option Addr) (n c : Nat) (l : List Nat) : Prop where
  len : l.length = n
  cap : n ≤ c
  capB : c ≤ 100000
  nil : a = none → c = 0
  limbs : Limbs l
  mem : l = [] ∨ ∃ b rest, a = some ⟨b, 0, none⟩ ∧ U32s w b (l ++ rest)
theorem Bn.below {w w' : World} {a : Option Addr} {n c : Nat} {l : List Nat} (h : Bn w a n c l) (hb : Below w.heap.size w w') : Bn w' a n c l := by
  obtain ⟨h1, h2, h3, h4, h5, h6⟩ := h
  refine ⟨h1, h2, h3, h4, h5, h6.imp id ?_⟩
  rintro ⟨b, rest, ha, hu⟩
  exact ⟨b, rest, ha, hu.below hb hu.lt⟩
theorem Bn.alloc {w : World} {a : Option Addr} {n c : Nat} {l : List Nat} (h : Bn w a n c l) (o : Obj) : Bn (w.alloc o) a n c l := h.below ((Below.refl _ _).alloc (Nat.le_refl _) _)
theorem Bn.drewN {w : World} {a : Option Addr} {n c : Nat} {l : List Nat} (h : Bn w a n c l) (q : Nat) : Bn (w.drewN q) a n c l := h.below ⟨rfl, rfl, rfl, Nat.le_refl _, fun _ _ => rfl⟩
theorem U32s.cellL {w : World} {b : Nat} {l rest : List Nat} (h : U32s w b (l ++ rest)) {i : Nat} (hi : i < l.length) : w.cell? ⟨b, i, none⟩ = some (.int .u32 ((l.getD i 0 : Nat) : Int)) := by
  rw [h.cell (by simp; omega)]
  congr 2
  simp [hi, List.getElem?_append_left]
/-- A limb's cell. -/
theorem Bn.cell {w : World} {a : Option Addr} {n c : Nat} {l : List Nat} (h : Bn w a n c l) {i : Nat} (hi : i < n) : ∃ b, a = some ⟨b, 0, none⟩ ∧ ∀ j, j < n → w.cell? ⟨b, j, none⟩ = some (.int .u32 ((l.getD j 0 : Nat) : Int)) := by
  have hl := h.len
  rcases h.mem with h0 | ⟨b, rest, ha, hu⟩
  · subst h0; simp at hl; omega
  · exact ⟨b, ha, fun j hj => hu.cellL (by omega)⟩
/-- The head of it. -/
theorem Bn.take {w : World} {a : Option Addr} {n c : Nat} {l : List Nat} (h : Bn w a n c l) (m : Nat) (hm : m ≤ n) : Bn w a m c (l.take m) := by
  obtain ⟨h1, h2, h3, h4, h5, h6⟩ := h
  refine ⟨by simp; omega, by omega, h3, h4, limbs_take h5 m, ?_⟩
  rcases h6 with h6 | ⟨b, rest, ha, hu⟩
  · left; simp [h6]
  · right
    refine ⟨b, l.drop m ++ rest, ha, ?_⟩
    rw [← List.append_assoc, List.take_append_drop]
    exact hu
end Go.Proofs.Qxb6625468a
