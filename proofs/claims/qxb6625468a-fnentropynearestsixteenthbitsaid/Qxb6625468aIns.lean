/-
  Plain lists: a nought inserted at place p; the two loops that build it; the costs behind it.
-/
import Derived.Test.Qxb6625468aMake
namespace Go.Proofs.Qxb6625468a
open Go.RowKit
set_option linter.unusedVariables false

/-- fs with a nought at place p. -/
def ins (p : Nat) (fs : List Nat) : List Nat := fs.take p ++ 0 :: fs.drop p
/-- Behind k rounds of the first loop. -/
def insA (fs : List Nat) (k : Nat) : List Nat := fs.take k ++ zeros (fs.length + 1 - k)
/-- The second loop at its counter i. -/
def insB (p : Nat) (fs : List Nat) (i : Nat) : List Nat := fs.take p ++ (0 :: (fs.drop p).take (i - p)) ++ zeros (fs.length - i)

theorem zeros_succ (n : Nat) : zeros (n + 1) = 0 :: zeros n := by simp [zeros, List.replicate_succ]
theorem insA_zero (fs : List Nat) : insA fs 0 = zeros (fs.length + 1) := by simp [insA]
theorem insA_len (fs : List Nat) (k : Nat) (h : k ≤ fs.length) : (insA fs k).length = fs.length + 1 := by simp [insA, zeros_length]; omega
theorem insA_step (fs : List Nat) (k : Nat) (h : k < fs.length) : (insA fs k).set k (fs.getD k 0) = insA fs (k + 1) := by
  unfold insA
  have hl : (fs.take k).length = k := by simp; omega
  rw [show fs.length + 1 - k = (fs.length - k) + 1 by omega, zeros_succ, List.set_append, if_neg (by omega), hl, Nat.sub_self, List.set_cons_zero, List.take_succ_eq_append_getElem h, List.append_assoc, show fs.length + 1 - (k + 1) = fs.length - k by omega]
  simp [h]
theorem insA_B (p : Nat) (fs : List Nat) (h : p ≤ fs.length) : insA fs p = insB p fs p := by
  unfold insA insB
  rw [show fs.length + 1 - p = (fs.length - p) + 1 by omega, zeros_succ]
  simp
theorem insB_len (p : Nat) (fs : List Nat) (i : Nat) (hp : p ≤ i) (h : i ≤ fs.length) : (insB p fs i).length = fs.length + 1 := by simp [insB, zeros_length]; omega
theorem insB_step (p : Nat) (fs : List Nat) (i : Nat) (hp : p ≤ i) (h : i < fs.length) : (insB p fs i).set (i + 1) (fs.getD i 0) = insB p fs (i + 1) := by
  unfold insB
  have hl : (fs.take p ++ (0 :: (fs.drop p).take (i - p))).length = i + 1 := by simp; omega
  rw [show fs.length - i = (fs.length - (i + 1)) + 1 by omega, zeros_succ, List.set_append, if_neg (by omega), hl, Nat.sub_self, List.set_cons_zero]
  have e : (fs.drop p).take (i + 1 - p) = (fs.drop p).take (i - p) ++ [fs.getD i 0] := by
    rw [show i + 1 - p = (i - p) + 1 by omega, List.take_succ_eq_append_getElem (by simp; omega)]
    congr 2
    rw [List.getElem_drop]
    simp [show p + (i - p) = i by omega, h]
  rw [e]
  simp
theorem insB_end (p : Nat) (fs : List Nat) (h : p ≤ fs.length) : insB p fs fs.length = ins p fs := by
  unfold insB ins
  rw [Nat.sub_self, List.take_of_length_le (l := fs.drop p) (by simp)]
  simp [zeros]
theorem ins_len (p : Nat) (fs : List Nat) (h : p ≤ fs.length) : (ins p fs).length = fs.length + 1 := by simp [ins]; omega
theorem ins_sum (p : Nat) (fs : List Nat) : (ins p fs).sum = fs.sum := by
  unfold ins
  rw [List.sum_append, List.sum_cons, Nat.zero_add, ← List.sum_append, List.take_append_drop]
theorem ins_lt (p : Nat) (fs : List Nat) (B : Nat) (hB : 0 < B) (h : ∀ f ∈ fs, f < B) : ∀ f ∈ ins p fs, f < B := by
  intro f hf
  unfold ins at hf
  rcases List.mem_append.1 hf with h1 | h1
  · exact h f (List.mem_of_mem_take h1)
  · rcases List.mem_cons.1 h1 with h2 | h2
    · omega
    · exact h f (List.mem_of_mem_drop h2)
theorem ins_lo (p : Nat) (fs : List Nat) (i : Nat) (hi : i < p) (hp : p ≤ fs.length) : (ins p fs).getD i 0 = fs.getD i 0 := by
  unfold ins
  rw [List.getD_eq_getElem?_getD, List.getElem?_append_left (by simp; omega), List.getElem?_take, if_pos hi, List.getD_eq_getElem?_getD]
theorem ins_at (p : Nat) (fs : List Nat) (hp : p ≤ fs.length) : (ins p fs).getD p 0 = 0 := by
  unfold ins
  rw [List.getD_eq_getElem?_getD, List.getElem?_append_right (by simp; omega), List.length_take, Nat.min_eq_left hp, Nat.sub_self]
  rfl
theorem ins_hi (p : Nat) (fs : List Nat) (i : Nat) (hi : p ≤ i) (hp : p ≤ fs.length) : (ins p fs).getD (i + 1) 0 = fs.getD i 0 := by
  unfold ins
  rw [List.getD_eq_getElem?_getD, List.getElem?_append_right (by simp; omega), List.length_take, Nat.min_eq_left hp, show i + 1 - p = (i - p) + 1 by omega, List.getElem?_cons_succ, List.getElem?_drop, show p + (i - p) = i by omega, List.getD_eq_getElem?_getD]
theorem costs_getD (T : Nat) (l : List Nat) (i : Nat) (h : i < l.length) : (costs T l).getD i 0 = Fl.cost T (max (l.getD i 0) 1) := by
  simp [costs, h]
theorem costs_length (T : Nat) (l : List Nat) : (costs T l).length = l.length := by simp [costs]

/-- zzEntropy at named lengths, the whole of the cost row told. -/
theorem zzE (fa : Option Addr) (bf cf bc cc n m : Nat) (fs cs : List Nat) (w : World) (hn : fs.length = n) (hm : cs.length = m) (hf : Row w fa bf fs) (hc : U32s w bc cs) (hb : fs = [] ∨ bf ≠ bc) (hl : n ≤ m) (hn' : n ≤ 65537) (hm' : m ≤ 65537) (h32 : ∀ f ∈ fs, f < 2 ^ 32) :
    Calls Try.prog 6 #[.slice fa n cf, .slice (some ⟨bc, 0, none⟩) m cc] w fun e w' => e = .returned (.tuple #[]) ∧ U32s w' bc (costs fs.sum fs ++ cs.drop n) ∧ Only bc w w' := by
  subst hn hm
  exact zzEntropy_calls fa bf cf bc cc fs cs w hf hc hb hl hn' hm' h32
theorem Row.only {w w' : World} {a : Option Addr} {b c : Nat} {l : List Nat} (h : Row w a b l) (ho : Only c w w') (hb : l = [] ∨ b ≠ c) : Row w' a b l := by
  rcases h with h | ⟨h1, h2⟩
  · exact Or.inl h
  · rcases hb with hb | hb
    · exact Or.inl hb
    · exact Or.inr ⟨h1, ho.keeps hb h2⟩
theorem Row.alloc {w : World} {a : Option Addr} {b : Nat} {l : List Nat} (h : Row w a b l) (o : Obj) : Row (w.alloc o) a b l := by
  rcases h with h | ⟨h1, h2⟩
  · exact Or.inl h
  · exact Or.inr ⟨h1, h2.alloc o⟩
theorem Row.drew {w : World} {a : Option Addr} {b : Nat} {l : List Nat} (h : Row w a b l) : Row w.drew a b l := h

end Go.Proofs.Qxb6625468a
