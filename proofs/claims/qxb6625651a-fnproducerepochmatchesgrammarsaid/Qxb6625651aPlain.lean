/-
  Decimal numerals in a row of bytes. Plain: no Go in sight.
-/
namespace Go.Proofs.Qxb6625651a

def isDig (c : Nat) : Bool := 48 ≤ c && c ≤ 57
/-- The run of digits at the head. -/
def digs (l : List Nat) : List Nat := l.takeWhile isDig
/-- The number that a run of digits spells. -/
def dval (ds : List Nat) : Nat := ds.foldl (fun u c => 10 * u + (c - 48)) 0

theorem foldl_dval (ds : List Nat) (u : Nat) : ds.foldl (fun u c => 10 * u + (c - 48)) u = u * 10 ^ ds.length + dval ds := by
  induction ds generalizing u with
  | nil => simp [dval]
  | cons c l ih =>
    simp only [List.foldl_cons, dval, List.length_cons]
    rw [ih, ih (10 * 0 + (c - 48)), Nat.pow_succ]
    simp only [Nat.mul_zero, Nat.zero_add]
    rw [Nat.add_mul, Nat.mul_comm 10 u, Nat.mul_assoc, Nat.mul_comm 10]
    omega
theorem dval_append (a b : List Nat) : dval (a ++ b) = dval a * 10 ^ b.length + dval b := by
  unfold dval
  rw [List.foldl_append, foldl_dval]
  rfl
theorem dval_snoc (a : List Nat) (c : Nat) : dval (a ++ [c]) = 10 * dval a + (c - 48) := by
  rw [dval_append]
  simp [dval, Nat.mul_comm]
theorem dval_cons (c : Nat) (l : List Nat) : dval (c :: l) = (c - 48) * 10 ^ l.length + dval l := by
  have := dval_append [c] l
  simpa [dval] using this
theorem dval_lt (ds : List Nat) (h : ∀ c ∈ ds, isDig c = true) : dval ds < 10 ^ ds.length := by
  induction ds with
  | nil => simp [dval]
  | cons c l ih =>
    have h1 := ih (fun x hx => h x (List.mem_cons_of_mem _ hx))
    have h2 := h c List.mem_cons_self
    simp [isDig] at h2
    rw [dval_cons, List.length_cons, Nat.pow_succ]
    have h3 : (c - 48) * 10 ^ l.length ≤ 9 * 10 ^ l.length := Nat.mul_le_mul_right _ (by omega)
    omega
theorem digs_dig (l : List Nat) : ∀ c ∈ digs l, isDig c = true := fun c hc => by
  induction l with
  | nil => simp [digs] at hc
  | cons d l ih =>
    unfold digs at hc ih
    rw [List.takeWhile_cons] at hc
    by_cases h : isDig d = true
    · rw [if_pos h] at hc
      rcases List.mem_cons.1 hc with rfl | h1
      · exact h
      · exact ih h1
    · rw [if_neg h] at hc
      simp at hc
/-- A run of digits ahead of something that is no digit. -/
theorem digs_append (ds r : List Nat) (h : ∀ c ∈ ds, isDig c = true) (hr : ∀ c, r.head? = some c → isDig c = false) : digs (ds ++ r) = ds := by
  induction ds with
  | nil =>
    cases r with
    | nil => rfl
    | cons c r =>
      have := hr c rfl
      simp [digs, this]
  | cons d l ih =>
    have h1 := h d List.mem_cons_self
    have h2 := ih (fun x hx => h x (List.mem_cons_of_mem _ hx))
    unfold digs at h2 ⊢
    simp [h1, h2]

/-! ### A numeral at the head of l -/
def neg (l : List Nat) : Bool := l.head? == some 45
/-- The digits behind the sign. -/
def nds (l : List Nat) : List Nat := digs (if neg l then l.tail else l)
def lim (bits : Nat) (n : Bool) : Nat := if n then 2 ^ (bits - 1) else 2 ^ (bits - 1) - 1
/-- The numeral is a good one. -/
def numOk (bits : Nat) (l : List Nat) : Bool :=
  !(nds l).isEmpty && decide ((nds l).length ≤ 19) && decide (dval (nds l) ≤ lim bits (neg l)) && !(decide (1 < (nds l).length) && ((nds l).head? == some 48))
def numVal (l : List Nat) : Int := if neg l then -(dval (nds l) : Int) else (dval (nds l) : Int)
def numWid (l : List Nat) : Nat := (if neg l then 1 else 0) + (nds l).length

/-- What the reader's 'integer' answers: the value, what is left, failed. -/
def integer (bits : Nat) (l : List Nat) (f : Bool) : Int × List Nat × Bool :=
  if !f && numOk bits l then (numVal l, l.drop (numWid l), f) else (0, l, true)
/-- What 'expect' leaves. -/
def expect (s : List Nat) (l : List Nat) (f : Bool) : List Nat × Bool :=
  if !f && s.isPrefixOf l then (l.drop s.length, f) else (l, true)

def txtOpen : List Nat := [123, 34, 112, 114, 111, 100, 117, 99, 101, 114, 95, 105, 100, 34, 58]
def txtMid : List Nat := [44, 34, 101, 112, 111, 99, 104, 34, 58]
def txtClose : List Nat := [125]

/-- What 'producerEpoch' answers: the id, the epoch (as it was read), what is left, failed. -/
def epoch (l : List Nat) (f : Bool) : Int × Int × List Nat × Bool :=
  let r1 := expect txtOpen l f
  let r2 := integer 64 r1.1 r1.2
  let r3 := expect txtMid r2.2.1 r2.2.2
  let r4 := integer 16 r3.1 r3.2
  let r5 := expect txtClose r4.2.1 r4.2.2
  (r2.1, r4.1, r5.1, r5.2)

/-! ### Writing and reading back -/
/-- s spells u. -/
structure Dec (s : List Nat) (u : Nat) : Prop where
  dig : ∀ c ∈ s, isDig c = true
  val : dval s = u
  ne : s ≠ []
  lead : 1 < s.length → s.head? ≠ some 48
theorem Dec.short {s : List Nat} {u : Nat} (h : Dec s u) (hu : u ≤ 2 ^ 63) : s.length ≤ 19 := by
  obtain ⟨h1, h2, h3, h4⟩ := h
  match s, h3 with
  | c :: l, _ =>
    rcases Nat.lt_or_ge (c :: l).length 2 with hl | hl
    · omega
    · have h5 := h4 (by omega)
      have h6 := h1 c List.mem_cons_self
      simp [isDig] at h6
      simp at h5
      rw [dval_cons] at h2
      have h7 : 1 * 10 ^ l.length ≤ (c - 48) * 10 ^ l.length := Nat.mul_le_mul_right _ (by omega)
      rcases Nat.lt_or_ge l.length 19 with h8 | h8
      · simp; omega
      · exfalso
        have : 10 ^ 19 ≤ 10 ^ l.length := Nat.pow_le_pow_right (by decide) h8
        omega
/-- The text of an integer. -/
def IntText (t : List Nat) (x : Int) : Prop := ∃ s, Dec s x.natAbs ∧ t = if x < 0 then 45 :: s else s

theorem read_int (bits : Nat) (t : List Nat) (x : Int) (r : List Nat) (h : IntText t x) (hr : ∀ c, r.head? = some c → isDig c = false) (hb : bits ≤ 64) (h1 : -(2 ^ (bits - 1) : Nat) ≤ x) (h2 : x < (2 ^ (bits - 1) : Nat)) :
    integer bits (t ++ r) false = (x, r, false) := by
  obtain ⟨s, hd, rfl⟩ := h
  have hp : 2 ^ (bits - 1) ≤ 2 ^ 63 := Nat.pow_le_pow_right (by decide) (by omega)
  have hs := hd.short (by omega)
  have hdig := digs_append s r hd.dig hr
  by_cases hx : x < 0
  · rw [if_pos hx]
    have hn : neg (45 :: s ++ r) = true := rfl
    have hnd : nds (45 :: s ++ r) = s := by unfold nds; rw [hn]; exact hdig
    have hok : numOk bits (45 :: s ++ r) = true := by
      unfold numOk
      rw [hnd, hn]
      have a1 : s.isEmpty = false := by simpa using hd.ne
      have a2 : dval s ≤ lim bits true := by rw [hd.val]; show _ ≤ 2 ^ (bits - 1); omega
      have a3 : (decide (1 < s.length) && (s.head? == some 48)) = false := by
        by_cases hl : 1 < s.length
        · have := hd.lead hl
          simp [this]
        · simp [hl]
      rw [a1, a3, decide_eq_true hs, decide_eq_true a2]
      rfl
    unfold integer numVal numWid
    rw [hok, hn, hnd, hd.val]
    simp only [Bool.not_false, Bool.and_true, if_true, List.cons_append]
    refine Prod.ext ?_ (Prod.ext ?_ rfl)
    · show -(x.natAbs : Int) = x
      omega
    · show (45 :: (s ++ r)).drop (1 + s.length) = r
      rw [Nat.add_comm, List.drop_succ_cons, List.drop_left]
  · rw [if_neg hx]
    have hhead : ∃ c l, s = c :: l := by
      match s, hd.ne with
      | c :: l, _ => exact ⟨c, l, rfl⟩
    have hn : neg (s ++ r) = false := by
      obtain ⟨c, l, rfl⟩ := hhead
      have := hd.dig c List.mem_cons_self
      simp [isDig] at this
      simp [neg]
      omega
    have hnd : nds (s ++ r) = s := by unfold nds; rw [hn]; exact hdig
    have hok : numOk bits (s ++ r) = true := by
      unfold numOk
      rw [hnd, hn]
      have a1 : s.isEmpty = false := by simpa using hd.ne
      have a2 : dval s ≤ lim bits false := by rw [hd.val]; show _ ≤ 2 ^ (bits - 1) - 1; omega
      have a3 : (decide (1 < s.length) && (s.head? == some 48)) = false := by
        by_cases hl : 1 < s.length
        · have := hd.lead hl
          simp [this]
        · simp [hl]
      rw [a1, a3, decide_eq_true hs, decide_eq_true a2]
      rfl
    unfold integer numVal numWid
    rw [hok, hn, hnd, hd.val]
    simp only [Bool.not_false, Bool.and_true, if_true, Bool.false_eq_true, if_false, Nat.zero_add]
    refine Prod.ext ?_ (Prod.ext ?_ rfl)
    · show (x.natAbs : Int) = x
      omega
    · show (s ++ r).drop s.length = r
      rw [List.drop_left]

theorem expect_self (s r : List Nat) : expect s (s ++ r) false = (r, false) := by
  unfold expect
  have : s.isPrefixOf (s ++ r) = true := List.isPrefixOf_iff_prefix.2 ⟨r, rfl⟩
  rw [this]
  simp

/-- A record, read back. -/
theorem read_record (t1 t2 : List Nat) (x y : Int) (r : List Nat) (h1 : IntText t1 x) (h2 : IntText t2 y) (hx : -(2 ^ 63) ≤ x) (hx' : x < 2 ^ 63) (hy : -(2 ^ 15) ≤ y) (hy' : y < 2 ^ 15) :
    epoch (txtOpen ++ t1 ++ txtMid ++ t2 ++ txtClose ++ r) false = (x, y, r, false) := by
  unfold epoch
  have e1 : txtOpen ++ t1 ++ txtMid ++ t2 ++ txtClose ++ r = txtOpen ++ (t1 ++ (txtMid ++ (t2 ++ (txtClose ++ r)))) := by simp [List.append_assoc]
  rw [e1, expect_self]
  dsimp only
  rw [read_int 64 t1 x _ h1 (by intro c hc; simp [txtMid] at hc; subst hc; rfl) (by decide) (by simpa using hx) (by simpa using hx')]
  dsimp only
  rw [expect_self]
  dsimp only
  rw [read_int 16 t2 y _ h2 (by intro c hc; simp [txtClose] at hc; subst hc; rfl) (by decide) (by simpa using hy) (by simpa using hy')]
  dsimp only
  rw [expect_self]
theorem read_failed (l : List Nat) : epoch l true = (0, 0, l, true) := by
  simp [epoch, expect, integer]

end Go.Proofs.Qxb6625651a
