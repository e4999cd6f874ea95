/-
  What peModel answers. Plain: no Go in sight.
-/
import Derived.Test.Qxb6625651aDec
namespace Go.Proofs.Qxb6625651a

/-- The id, the epoch, the place, failed. -/
def mdl (l : List Nat) (f : Bool) : Int × Int × Nat × Bool :=
  if f then (0, 0, 0, true)
  else if txtOpen.isPrefixOf (l.drop 0) then
    if (numRes 64 (l.drop 15)).2.2 then
      if txtMid.isPrefixOf (l.drop (15 + (numRes 64 (l.drop 15)).2.1)) then
        if (numRes 16 (l.drop (15 + (numRes 64 (l.drop 15)).2.1 + 9))).2.2 then
          if txtClose.isPrefixOf (l.drop (15 + (numRes 64 (l.drop 15)).2.1 + 9 + (numRes 16 (l.drop (15 + (numRes 64 (l.drop 15)).2.1 + 9))).2.1)) then
            ((numRes 64 (l.drop 15)).1, (numRes 16 (l.drop (15 + (numRes 64 (l.drop 15)).2.1 + 9))).1, 15 + (numRes 64 (l.drop 15)).2.1 + 9 + (numRes 16 (l.drop (15 + (numRes 64 (l.drop 15)).2.1 + 9))).2.1 + 1, false)
          else ((numRes 64 (l.drop 15)).1, (numRes 16 (l.drop (15 + (numRes 64 (l.drop 15)).2.1 + 9))).1, 15 + (numRes 64 (l.drop 15)).2.1 + 9 + (numRes 16 (l.drop (15 + (numRes 64 (l.drop 15)).2.1 + 9))).2.1, true)
        else ((numRes 64 (l.drop 15)).1, 0, 15 + (numRes 64 (l.drop 15)).2.1 + 9, true)
      else ((numRes 64 (l.drop 15)).1, 0, 15 + (numRes 64 (l.drop 15)).2.1, true)
    else (0, 0, 15, true)
  else (0, 0, 0, true)

theorem integer_res (bits : Nat) (l : List Nat) (o : Nat) : integer bits (l.drop o) false = ((numRes bits (l.drop o)).1, if (numRes bits (l.drop o)).2.2 then l.drop (o + (numRes bits (l.drop o)).2.1) else l.drop o, !(numRes bits (l.drop o)).2.2) := by
  unfold integer numRes
  cases numOk bits (l.drop o) with
  | true => simp [List.drop_drop]
  | false => simp
theorem integer_failed (bits : Nat) (l : List Nat) : integer bits l true = (0, l, true) := rfl
theorem expect_drop (s l : List Nat) (o : Nat) : expect s (l.drop o) false = if s.isPrefixOf (l.drop o) then (l.drop (o + s.length), false) else (l.drop o, true) := by
  unfold expect
  cases s.isPrefixOf (l.drop o) <;> simp [List.drop_drop]
theorem expect_failed (s l : List Nat) : expect s l true = (l, true) := rfl
theorem res_false (bits : Nat) (l : List Nat) (h : (numRes bits l).2.2 = false) : (numRes bits l).1 = 0 := by
  unfold numRes at h ⊢
  cases h' : numOk bits l with
  | true => rw [h'] at h; cases h
  | false => rfl

theorem mdl_epoch (l : List Nat) (f : Bool) : epoch l f = ((mdl l f).1, (mdl l f).2.1, l.drop (mdl l f).2.2.1, (mdl l f).2.2.2) := by
  cases f with
  | true => rw [read_failed]; rfl
  | false =>
    unfold epoch
    have e0 : expect txtOpen l false = expect txtOpen (l.drop 0) false := rfl
    rw [e0, expect_drop]
    unfold mdl
    cases h1 : txtOpen.isPrefixOf (l.drop 0) with
    | false => rfl
    | true =>
      dsimp only
      simp only [if_true, Bool.false_eq_true, if_false]
      rw [show 0 + txtOpen.length = 15 from rfl, integer_res]
      cases h2 : (numRes 64 (l.drop 15)).2.2 with
      | false => rw [res_false _ _ h2]; rfl
      | true =>
        simp only [if_true, Bool.not_true]
        rw [expect_drop]
        cases h3 : txtMid.isPrefixOf (l.drop (15 + (numRes 64 (l.drop 15)).2.1)) with
        | false => rfl
        | true =>
          simp only [if_true]
          rw [show txtMid.length = 9 from rfl, integer_res]
          cases h4 : (numRes 16 (l.drop (15 + (numRes 64 (l.drop 15)).2.1 + 9))).2.2 with
          | false => rw [res_false _ _ h4]; rfl
          | true =>
            simp only [if_true, Bool.not_true]
            rw [expect_drop]
            cases h5 : txtClose.isPrefixOf (l.drop (15 + (numRes 64 (l.drop 15)).2.1 + 9 + (numRes 16 (l.drop (15 + (numRes 64 (l.drop 15)).2.1 + 9))).2.1)) with
            | false => rfl
            | true => rfl

theorem res_fit (bits : Nat) (l : List Nat) (o : Nat) (ho : o ≤ l.length) : o + (numRes bits (l.drop o)).2.1 ≤ l.length := by
  have h := (run_at l o ho).fit
  unfold numRes
  cases numOk bits (l.drop o) with
  | true =>
    show o + numWid (l.drop o) ≤ _
    unfold numWid
    omega
  | false => exact ho
theorem pre_fit (s l : List Nat) (o : Nat) (h : s.isPrefixOf (l.drop o) = true) (ho : o ≤ l.length) : o + s.length ≤ l.length := by
  obtain ⟨r, hr⟩ := List.isPrefixOf_iff_prefix.1 h
  have := congrArg List.length hr
  simp at this
  omega
theorem mdl_fit (l : List Nat) (f : Bool) : (mdl l f).2.2.1 ≤ l.length := by
  unfold mdl
  cases f with
  | true => exact Nat.zero_le _
  | false =>
    simp only [Bool.false_eq_true, if_false]
    cases h1 : txtOpen.isPrefixOf (l.drop 0) with
    | false => exact Nat.zero_le _
    | true =>
      have f1 := pre_fit _ _ _ h1 (Nat.zero_le _)
      rw [show 0 + txtOpen.length = 15 from rfl] at f1
      have f2 := res_fit 64 l 15 f1
      simp only [if_true]
      cases h2 : (numRes 64 (l.drop 15)).2.2 with
      | false => exact f1
      | true =>
        simp only [if_true]
        cases h3 : txtMid.isPrefixOf (l.drop (15 + (numRes 64 (l.drop 15)).2.1)) with
        | false => exact f2
        | true =>
          have f3 := pre_fit _ _ _ h3 f2
          rw [show txtMid.length = 9 from rfl] at f3
          have f4 := res_fit 16 l _ f3
          simp only [if_true]
          cases h4 : (numRes 16 (l.drop (15 + (numRes 64 (l.drop 15)).2.1 + 9))).2.2 with
          | false => exact f3
          | true =>
            simp only [if_true]
            cases h5 : txtClose.isPrefixOf (l.drop (15 + (numRes 64 (l.drop 15)).2.1 + 9 + (numRes 16 (l.drop (15 + (numRes 64 (l.drop 15)).2.1 + 9))).2.1)) with
            | false => exact f4
            | true => exact pre_fit _ _ _ h5 f4
theorem res_range (l : List Nat) : -32768 ≤ (numRes 16 l).1 ∧ (numRes 16 l).1 ≤ 32767 := by
  unfold numRes
  cases h : numOk 16 l with
  | false =>
    show (-32768 : Int) ≤ 0 ∧ (0 : Int) ≤ 32767
    exact ⟨by decide, by decide⟩
  | true =>
    unfold numOk at h
    simp only [Bool.and_eq_true, decide_eq_true_eq] at h
    have h3 := h.1.2
    show _ ≤ numVal l ∧ numVal l ≤ _
    unfold numVal
    unfold lim at h3
    cases hn : neg l with
    | true => rw [hn] at h3; simp at h3; simp; omega
    | false => rw [hn] at h3; simp at h3; simp; omega
end Go.Proofs.Qxb6625651a
