/-
  The walk of the law FnEntropyNearestSixteenthBit.
-/
import Derived.Test.Qxb6625468aCmp
import Derived.Test.Qxb6625468aIns
import Derived.Lib.SliceRun
namespace Go.Proofs.Qxb6625468a
open Go.ChangeShapes Go.WideShapes Go.ChangeAt Go.RowKit
set_option linter.unusedVariables false

/-- A slice of uint32 that came in, at a plain address. -/
def SrcP (w : World) (a : Option Addr) (l : List Nat) : Prop := l = [] ∨ ∃ b o, a = some ⟨b, o, none⟩ ∧ b < w.heap.size ∧ ∀ j, j < l.length → w.cell? ⟨b, o + j, none⟩ = some (.int .u32 ((l.getD j 0 : Nat) : Int))
theorem Src.plain {w : World} {a : Option Addr} {l : List Nat} (h : Src w a l) : SrcP w a l := by
  rcases h with ⟨_, h⟩ | ⟨x, rfl, h⟩
  · exact Or.inl h
  · rcases Nat.eq_zero_or_pos l.length with h0 | h0
    · exact Or.inl (List.eq_nil_of_length_eq_zero h0)
    · right
      obtain ⟨b, o, spot⟩ := x
      have hspot : spot = none := by simpa [Addr.add] using World.cell?_spot (h 0 h0)
      subst hspot
      refine ⟨b, o, rfl, ?_, fun j hj => by rw [← add_plain]; exact h j hj⟩
      have := h 0 h0
      rw [add_plain] at this
      rcases Nat.lt_or_ge b w.heap.size with h' | h'
      · exact h'
      · simp [World.cell?, Array.getElem?_eq_none h'] at this

/-- The copy of cost, behind k rounds. -/
def cpA (cs : List Nat) (k : Nat) : List Nat := cs.take k ++ zeros (cs.length - k)
theorem cpA_len (cs : List Nat) (k : Nat) (h : k ≤ cs.length) : (cpA cs k).length = cs.length := by simp [cpA, zeros_length]; omega
theorem cpA_step (cs : List Nat) (k : Nat) (h : k < cs.length) : (cpA cs k).set k (cs.getD k 0) = cpA cs (k + 1) := by
  unfold cpA
  have hl : (cs.take k).length = k := by simp; omega
  rw [show cs.length - k = (cs.length - (k + 1)) + 1 by omega, zeros_succ, List.set_append, if_neg (by omega), hl, Nat.sub_self, List.set_cons_zero, List.take_succ_eq_append_getElem h, List.append_assoc]
  simp [h]
theorem cpA_end (cs : List Nat) : cpA cs cs.length = cs := by simp [cpA, zeros]
theorem cpA_zero (cs : List Nat) : cpA cs 0 = zeros cs.length := by simp [cpA]

/-- What the third loop keeps. -/
structure St (w wr : World) (O : Nat) (ol : List Nat) (fa : Option Addr) (bf : Nat) (fs : List Nat) (ta : Option Addr) (tn tc : Nat) (tl : List Nat) (ma : Option Addr) (mn mc : Nat) (ml : List Nat) : Prop where
  out : U32s wr O ol
  row : Row wr fa bf fs
  tp : Bn wr ta tn tc tl
  m : Bn wr ma mn mc ml
  bel : Below w.heap.size w wr
theorem Row.below {w w' : World} {a : Option Addr} {b : Nat} {l : List Nat} (h : Row w a b l) (hb : Below w.heap.size w w') : Row w' a b l := by
  rcases h with h | ⟨h1, h2⟩
  · exact Or.inl h
  · exact Or.inr ⟨h1, h2.below hb h2.lt⟩
theorem St.below {w wr w' : World} {O : Nat} {ol : List Nat} {fa : Option Addr} {bf : Nat} {fs : List Nat} {ta : Option Addr} {tn tc : Nat} {tl : List Nat} {ma : Option Addr} {mn mc : Nat} {ml : List Nat} (h : St w wr O ol fa bf fs ta tn tc tl ma mn mc ml) (hb : Below wr.heap.size wr w') : St w w' O ol fa bf fs ta tn tc tl ma mn mc ml :=
  ⟨h.out.below hb h.out.lt, h.row.below hb, h.tp.below hb, h.m.below hb, h.bel.trans (hb.mono h.bel.size)⟩

/-! ### The two inequalities, where the law asks them -/
theorem ineqA (T f : Nat) (hT : T < 2 ^ 49) (hf : 1 ≤ f) (hf' : f < 2 ^ 33) (h : 2 * f ≤ T) : f ^ 32 * 2 ^ (2 * Fl.cost T f + 18) ≤ T ^ 32 * (2 ^ 19 + 1) := by
  obtain ⟨a, b, c, _⟩ := Fl.cost_main T f hT hf hf'
  rcases Nat.lt_or_ge 16 (Fl.cost T f) with hk | hk
  · exact c hk
  · have hk' : Fl.cost T f = 16 := by omega
    rw [hk']
    have h2 := pow32_le h
    rw [Nat.mul_pow] at h2
    generalize f ^ 32 = F at *
    generalize T ^ 32 = TT at *
    omega
theorem ineqB (T f : Nat) (hT : T < 2 ^ 49) (hf : 1 ≤ f) (hf' : f < 2 ^ 33) (h : T ≤ f * 2 ^ 15) : T ^ 32 * 2 ^ 19 ≤ f ^ 32 * (2 ^ 19 + 1) * 2 ^ (2 * Fl.cost T f + 1) := by
  obtain ⟨a, b, _, d⟩ := Fl.cost_main T f hT hf hf'
  rcases Nat.lt_or_ge (Fl.cost T f) 240 with hk | hk
  · exact d hk
  · have hk' : Fl.cost T f = 240 := by omega
    rw [hk']
    have h2 := pow32_le h
    rw [Nat.mul_pow] at h2
    have h4 := Nat.mul_le_mul_right (2 ^ 19) h2
    refine Nat.le_trans h4 ?_
    rw [Nat.mul_assoc, Nat.mul_assoc]
    exact Nat.mul_le_mul_left _ (by decide +kernel)
end Go.Proofs.Qxb6625468a
