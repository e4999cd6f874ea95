/-
  Plain facts on the run of digits at a place.
-/
import Derived.Test.Qxb6625651aPlain
namespace Go.Proofs.Qxb6625651a

/-- The run of digits from place D on. -/
structure Run (l : List Nat) (D : Nat) (dl : List Nat) : Prop where
  fit : D + dl.length ≤ l.length
  dig : ∀ k, k < dl.length → l.getD (D + k) 0 = dl.getD k 0 ∧ 48 ≤ dl.getD k 0 ∧ dl.getD k 0 ≤ 57
  stop : D + dl.length < l.length → ¬ (48 ≤ l.getD (D + dl.length) 0 ∧ l.getD (D + dl.length) 0 ≤ 57)
theorem takeWhile_run (l : List Nat) : Run l 0 (digs l) := by
  induction l with
  | nil => exact ⟨by simp [digs], by simp [digs], by simp [digs]⟩
  | cons d l ih =>
    obtain ⟨h1, h2, h3⟩ := ih
    by_cases h : isDig d = true
    · have e : digs (d :: l) = d :: digs l := by simp [digs, h]
      rw [e]
      refine ⟨by simp at h1 ⊢; omega, fun k hk => ?_, fun hlt => ?_⟩
      · cases k with
        | zero =>
          simp [isDig] at h
          simp
          omega
        | succ k =>
          have := h2 k (by simpa using hk)
          simpa using this
      · have := h3 (by simp at hlt ⊢; omega)
        simpa using this
    · have e : digs (d :: l) = [] := by simp [digs, h]
      rw [e]
      refine ⟨by simp, by simp, fun _ => ?_⟩
      simp [isDig] at h
      simp
      exact h
theorem run_of (l : List Nat) : Run l (if neg l then 1 else 0) (nds l) := by
  unfold nds
  cases hn : neg l with
  | false => simpa using takeWhile_run l
  | true =>
    cases l with
    | nil => simp [neg] at hn
    | cons d l =>
      obtain ⟨h1, h2, h3⟩ := takeWhile_run l
      simp only [if_true, List.tail_cons]
      refine ⟨by simp at h1 ⊢; omega, fun k hk => ?_, fun hlt => ?_⟩
      · have := h2 k hk
        simpa [Nat.add_comm 1] using this
      · have := h3 (by simp at hlt ⊢; omega)
        simpa [Nat.add_comm 1] using this
theorem dval_take_succ (dl : List Nat) (k : Nat) (hk : k < dl.length) : dval (dl.take (k + 1)) = 10 * dval (dl.take k) + (dl.getD k 0 - 48) := by
  rw [List.take_succ_eq_append_getElem hk, dval_snoc]
  simp [hk]
theorem dval_take_lt (dl : List Nat) (h : ∀ c ∈ dl, isDig c = true) (k : Nat) : dval (dl.take k) < 10 ^ k := by
  have h1 := dval_lt (dl.take k) (fun c hc => h c (List.mem_of_mem_take hc))
  have h2 : 10 ^ (dl.take k).length ≤ 10 ^ k := Nat.pow_le_pow_right (by decide) (by simp; omega)
  omega
theorem nds_dig (l : List Nat) : ∀ c ∈ nds l, isDig c = true := digs_dig _
/-- The reader's counter when its loop is left: twenty, or the run's end. -/
def stopAt (dl : List Nat) : Nat := min dl.length 20
end Go.Proofs.Qxb6625651a
