/-
  Decimal texts compared: length first, then digit by digit. Plain: no Go in sight.
-/
import Derived.Test.Qxb6625651aDig
namespace Go.Proofs.Qxb6625651a

/-- b is the decimal text of the bound m. -/
structure Bnd (b : List Nat) (m : Nat) : Prop where
  dig : ∀ c ∈ b, isDig c = true
  val : dval b = m
  pos : 0 < b.length
  lead : b.getD 0 0 ≠ 48
  short : b.length ≤ 19

theorem dval_ge (s : List Nat) (h : ∀ c ∈ s, isDig c = true) (h0 : 0 < s.length) (hl : s.getD 0 0 ≠ 48) : 10 ^ (s.length - 1) ≤ dval s := by
  cases s with
  | nil => simp at h0
  | cons c t =>
    have h1 := h c List.mem_cons_self
    simp [isDig] at h1
    simp at hl
    rw [dval_cons]
    have : 1 * 10 ^ t.length ≤ (c - 48) * 10 ^ t.length := Nat.mul_le_mul_right _ (by omega)
    simp
    omega
theorem dval_shorter (s b : List Nat) (hs : ∀ c ∈ s, isDig c = true) (hb : ∀ c ∈ b, isDig c = true) (hl : b.getD 0 0 ≠ 48) (h : s.length < b.length) : dval s < dval b := by
  have h1 := dval_lt s hs
  have h2 := dval_ge b hb (by omega) hl
  have h3 : 10 ^ s.length ≤ 10 ^ (b.length - 1) := Nat.pow_le_pow_right (by decide) (by omega)
  omega
theorem dval_diff (s b : List Nat) (hs : ∀ c ∈ s, isDig c = true) (hb : ∀ c ∈ b, isDig c = true) (hl : s.length = b.length) (k : Nat) (hk : k < s.length) (he : ∀ j, j < k → s.getD j 0 = b.getD j 0) (hd : s.getD k 0 < b.getD k 0) : dval s < dval b := by
  induction s generalizing b k with
  | nil => simp at hk
  | cons c t ih =>
    cases b with
    | nil => simp at hl
    | cons d r =>
      have hlt : t.length = r.length := by simpa using hl
      have hc := hs c List.mem_cons_self
      have hd' := hb d List.mem_cons_self
      have ht := dval_lt t (fun x hx => hs x (List.mem_cons_of_mem _ hx))
      simp [isDig] at hc hd'
      rw [dval_cons, dval_cons, hlt]
      rw [hlt] at ht
      cases k with
      | zero =>
        simp at hd
        have : (c - 48 + 1) * 10 ^ r.length ≤ (d - 48) * 10 ^ r.length := Nat.mul_le_mul_right _ (by omega)
        rw [Nat.add_mul] at this
        omega
      | succ k =>
        have h0 : c = d := by simpa using he 0 (by omega)
        have := ih r (fun x hx => hs x (List.mem_cons_of_mem _ hx)) (fun x hx => hb x (List.mem_cons_of_mem _ hx)) hlt k (by simpa using hk) (fun j hj => by simpa using he (j + 1) (by omega)) (by simpa using hd)
        rw [h0]
        omega
theorem dval_same (s b : List Nat) (hl : s.length = b.length) (he : ∀ j, j < s.length → s.getD j 0 = b.getD j 0) : dval s = dval b := by
  have : s = b := by
    apply List.ext_getElem hl
    intro i h1 h2
    have := he i h1
    simpa [h1, h2] using this
  rw [this]
theorem dval_take_le (s : List Nat) (k : Nat) : dval (s.take k) ≤ dval s := by
  have h := dval_append (s.take k) (s.drop k)
  rw [List.take_append_drop] at h
  rw [h]
  have h1 : 1 ≤ 10 ^ (s.drop k).length := Nat.one_le_pow _ _ (by decide)
  have := Nat.mul_le_mul_left (dval (s.take k)) h1
  omega

/-- What peNumeral answers of the bytes from its place on. -/
def numRes (bits : Nat) (l : List Nat) : Int × Nat × Bool := if numOk bits l then (numVal l, numWid l, true) else (0, 0, false)
/-- The run from place off on. -/
theorem run_at (l : List Nat) (off : Nat) (ho : off ≤ l.length) : Run l (off + (if neg (l.drop off) then 1 else 0)) (nds (l.drop off)) := by
  have g : ∀ k, (l.drop off).getD k 0 = l.getD (off + k) 0 := fun k => by simp [List.getD_eq_getElem?_getD]
  obtain ⟨h1, h2, h3⟩ := run_of (l.drop off)
  refine ⟨by rw [List.length_drop] at h1; omega, fun k hk => ?_, fun hlt => ?_⟩
  · have := h2 k hk
    rw [g, ← Nat.add_assoc] at this
    exact this
  · have := h3 (by rw [List.length_drop]; omega)
    rw [g, ← Nat.add_assoc] at this
    exact this

theorem res_empty (bits : Nat) (l : List Nat) (h : nds l = []) : numRes bits l = (0, 0, false) := by
  unfold numRes numOk
  rw [h]
  rfl
theorem res_lead (bits : Nat) (l : List Nat) (h : 1 < (nds l).length) (h0 : (nds l).getD 0 0 = 48) : numRes bits l = (0, 0, false) := by
  have hh : (nds l).head? = some 48 := by
    cases hn : nds l with
    | nil => rw [hn] at h; simp at h
    | cons d r => rw [hn] at h0; simp at h0; simp [h0]
  unfold numRes numOk
  rw [hh, decide_eq_true h]
  simp
theorem res_big (bits : Nat) (l : List Nat) (h : lim bits (neg l) < dval (nds l)) : numRes bits l = (0, 0, false) := by
  unfold numRes numOk
  rw [decide_eq_false (p := dval (nds l) ≤ lim bits (neg l)) (by omega)]
  simp
theorem res_fine (bits : Nat) (l : List Nat) (h0 : 0 < (nds l).length) (h19 : (nds l).length ≤ 19) (hv : dval (nds l) ≤ lim bits (neg l)) (hl : 1 < (nds l).length → (nds l).getD 0 0 ≠ 48) :
    numRes bits l = (numVal l, numWid l, true) := by
  have hok : numOk bits l = true := by
    unfold numOk
    rw [decide_eq_true h19, decide_eq_true hv]
    cases hn : nds l with
    | nil => rw [hn] at h0; simp at h0
    | cons d r =>
      rw [hn] at hl
      simp at hl ⊢
      cases r with
      | nil => exact Or.inl rfl
      | cons _ _ => exact Or.inr (hl (Nat.succ_pos _))
  unfold numRes
  rw [hok]
  rfl
def maxP (bits : Nat) : List Nat := if bits = 64 then [57, 50, 50, 51, 51, 55, 50, 48, 51, 54, 56, 53, 52, 55, 55, 53, 56, 48, 55] else [51, 50, 55, 54, 55]
def maxN (bits : Nat) : List Nat := if bits = 64 then [57, 50, 50, 51, 51, 55, 50, 48, 51, 54, 56, 53, 52, 55, 55, 53, 56, 48, 56] else [51, 50, 55, 54, 56]
theorem bnd_of (bits : Nat) (h : bits = 64 ∨ bits = 16) (ng : Bool) : Bnd (if ng then maxN bits else maxP bits) (lim bits ng) := by
  rcases h with rfl | rfl <;> cases ng
  · exact ⟨by decide, by decide, by decide, by decide, by decide⟩
  · exact ⟨by decide, by decide, by decide, by decide, by decide⟩
  · exact ⟨by decide, by decide, by decide, by decide, by decide⟩
  · exact ⟨by decide, by decide, by decide, by decide, by decide⟩
end Go.Proofs.Qxb6625651a
