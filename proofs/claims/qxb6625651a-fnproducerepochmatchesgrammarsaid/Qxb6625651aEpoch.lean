/-
  The walks of producerEpoch and of the reader's small twins.
-/
import Derived.Test.Qxb6625651aInt
import Derived.Laws.Rows
namespace Go.Proofs.Qxb6625651a
open Go.ChangeShapes Go.WideShapes Go.ChangeAt Go.RowKit
set_option linter.unusedVariables false

/-- A variable of type producerEpoch at block B. -/
def Ep (w : World) (B : Nat) (x y : Int) : Prop := w.heap[B]? = some (.cells #[.int .i64 x, .int .i16 y] 40 (0, 0))
theorem Ep.cell0 {w : World} {B : Nat} {x y : Int} (h : Ep w B x y) : w.cell? ⟨B, 0, none⟩ = some (.int .i64 x) := by
  unfold Ep at h; simp [World.cell?, h]
theorem Ep.cell1 {w : World} {B : Nat} {x y : Int} (h : Ep w B x y) : w.cell? ⟨B, 1, none⟩ = some (.int .i16 y) := by
  unfold Ep at h; simp [World.cell?, h]
theorem Ep.free {w : World} {B : Nat} {x y : Int} (h : Ep w B x y) (i : Nat) : w.frozen? ⟨B, i, none⟩ = false := by
  unfold Ep at h; simp [World.frozen?, h]
theorem Ep.lt {w : World} {B : Nat} {x y : Int} (h : Ep w B x y) : B < w.heap.size := by
  unfold Ep at h
  rcases Nat.lt_or_ge B w.heap.size with h' | h'
  · exact h'
  · rw [Array.getElem?_eq_none h'] at h; cases h
theorem Ep.keep {R : Nat} {w w' : World} {B : Nat} {x y : Int} (h : Ep w B x y) (hk : Keep R w w') (hB : B ≠ R) : Ep w' B x y := by
  unfold Ep
  rw [hk.block B h.lt hB]
  exact h
theorem Ep.other {w : World} {B : Nat} {x y : Int} (h : Ep w B x y) (p : Addr) (v : Value) (hB : B ≠ p.block) : Ep (w.setCell p v) B x y := by
  unfold Ep
  rw [Below.heap_setCell _ _ _ _ hB]
  exact h
theorem Ep.set0 {w : World} {B : Nat} {x y : Int} (h : Ep w B x y) (v : Int) : Ep (w.setCell ⟨B, 0, none⟩ (.int .i64 v)) B v y := by
  unfold Ep at h ⊢
  simp only [World.setCell, Array.getElem?_modify, if_true, h, Option.map_some]
  rfl
theorem Ep.set1 {w : World} {B : Nat} {x y : Int} (h : Ep w B x y) (v : Int) : Ep (w.setCell ⟨B, 1, none⟩ (.int .i16 v)) B x v := by
  unfold Ep at h ⊢
  simp only [World.setCell, Array.getElem?_modify, if_true, h, Option.map_some]
  rfl
theorem Rdr.other {w : World} {R : Nat} {a : Option Addr} {n c : Nat} {f : Bool} (h : Rdr w R a n c f) (p : Addr) (v : Value) (hB : R ≠ p.block) : Rdr (w.setCell p v) R a n c f := by
  unfold Rdr
  rw [Below.heap_setCell _ _ _ _ hB]
  exact h
/-- A slice of bytes does not lie in such a variable. -/
theorem Suf.ep {w : World} {a : Option Addr} {n c : Nat} {l : List Nat} (h : Suf w a n c l) {B : Nat} {x y : Int} (he : Ep w B x y) (k : Nat) (v : Value) : Suf (w.setCell ⟨B, k, none⟩ v) a n c l := by
  obtain ⟨h1, h2, h3, h4, h5, h6⟩ := h
  refine ⟨h1, h2, h3, h4, h5, ?_⟩
  rcases h6 with h6 | ⟨b, o, ha, hlt, hc⟩
  · exact Or.inl h6
  · by_cases hn : n = 0
    · left; exact List.eq_nil_of_length_eq_zero (h1.trans hn)
    · right
      have hb : b ≠ B := by
        intro hb
        subst hb
        have h0 := hc 0 (by omega)
        unfold Ep at he
        simp only [World.cell?, he] at h0
        match o with
        | 0 => simp at h0
        | 1 => simp at h0
        | o + 2 => simp at h0
      refine ⟨b, o, ha, by simpa [World.setCell] using hlt, fun i hi => ?_⟩
      rw [← hc i hi]
      exact World.cell?_of_block (w := w) (Below.heap_setCell _ _ _ _ hb)

theorem made_ep (w : World) : Ep (w.alloc (.cells #[.int .i64 0, .int .i16 0] 40 (0, 0))) w.heap.size 0 0 := by
  unfold Ep
  show (w.heap.push _)[w.heap.size]? = _
  simp

theorem integer16_range (l : List Nat) (f : Bool) : -32768 ≤ (integer 16 l f).1 ∧ (integer 16 l f).1 ≤ 32767 := by
  unfold integer
  cases h : (!f && numOk 16 l) with
  | false => simp
  | true =>
    rw [if_pos rfl]
    simp only [Bool.and_eq_true] at h
    have h2 := h.2
    unfold numOk at h2
    simp only [Bool.and_eq_true, decide_eq_true_eq] at h2
    have h3 := h2.1.2
    show _ ≤ numVal l ∧ numVal l ≤ _
    unfold numVal
    unfold lim at h3
    cases hn : neg l with
    | true => rw [hn] at h3; simp at h3; simp; omega
    | false => rw [hn] at h3; simp at h3; simp; omega

set_option maxHeartbeats 1000000 in
set_option maxRecDepth 100000 in
theorem epoch_calls (R : Nat) (a : Option Addr) (n c : Nat) (f : Bool) (l : List Nat) (w : World) (hr : Rdr w R a n c f) (hs : Suf w a n c l) (hap : Apart R a) :
    Calls Try.prog 15 #[.pointer (some ⟨R, 0, none⟩)] w fun e w' =>
      e = .returned (.agg #[.int .i64 (epoch l f).1, .int .i16 (epoch l f).2.1]) ∧ Left R w w' (epoch l f).2.2.1 (epoch l f).2.2.2 := by
  have hRlt := hr.lt
  obtain ⟨Z, hZ⟩ : ∃ Z, Z = Obj.cells #[Value.int .i64 0, Value.int .i16 0] 40 (0, 0) := ⟨_, rfl⟩
  have hb0 : Below w.heap.size w ((w.alloc Z).alloc Z) := ((Below.refl _ _).alloc (Nat.le_refl _) _).alloc (by simp) _
  have hr0 := hr.below hb0
  have hs0 := hs.below hb0
  have hk0 : Keep R w ((w.alloc Z).alloc Z) := Keep.ofBelow hb0
  have e2 : Ep ((w.alloc Z).alloc Z) w.heap.size 0 0 := by
    have := made_ep w
    rw [← hZ] at this
    exact this.keep (Keep.ofBelow (R := R) ((Below.refl _ _).alloc (Nat.le_refl _) Z)) (by omega)
  have e3 : Ep ((w.alloc Z).alloc Z) (w.heap.size + 1) 0 0 := by
    have := made_ep (w.alloc Z)
    rw [← hZ] at this
    simpa using this
  have hlt2 : R < w.heap.size := hRlt
  clear hb0 hr hs
  go_enter Try.func15, Try.ntmps15
  go_wp2_with fail
  rw [← hZ]
  have n2 : w.heap.size ≠ R := by omega
  have n3 : w.heap.size + 1 ≠ R := by omega
  have n23 : w.heap.size ≠ w.heap.size + 1 := by omega
  have s2 : w.heap.size ≤ w.heap.size := Nat.le_refl _
  have s3 : w.heap.size ≤ w.heap.size + 1 := Nat.le_succ _
  generalize (w.alloc Z).alloc Z = W0 at *
  generalize hB3 : w.heap.size + 1 = B3 at *
  generalize hB2 : w.heap.size = B2 at *
  clear hB3 hRlt hlt2 hZ
  refine (expect_calls R a n c f l txtOpen W0 hr0 hs0 hap (by decide) (by decide) (by decide)).mono ?_
  rintro e w1 ⟨rfl, ⟨a1, d1, c1, hr1, hs1, hap1⟩, hk1⟩
  have e2' := e2.keep hk1 n2
  have e3' := e3.keep hk1 n3
  have k1 := hk0.trans hk1
  clear hk0 hk1 e2 e3 hr0 hs0 hap
  obtain ⟨r1, q1⟩ : ∃ r, r = expect txtOpen l f := ⟨_, rfl⟩
  have Q1 : Hid (r1 = expect txtOpen l f) := q1
  rw [← q1] at hr1 hs1
  clear q1
  go_wp2_with fail
  refine (integer_calls 64 (Or.inl rfl) R a1 d1 c1 r1.2 r1.1 w1 hr1 hs1 hap1).mono ?_
  rintro e w2 ⟨rfl, ⟨a2, d2, c2, hr2, hs2, hap2⟩, hk2⟩
  have f2 := e2'.keep hk2 n2
  have f3 := e3'.keep hk2 n3
  have k2 := k1.trans hk2
  obtain ⟨r2, q2⟩ : ∃ r, r = integer 64 r1.1 r1.2 := ⟨_, rfl⟩
  have Q2 : Hid (r2 = integer 64 r1.1 r1.2) := q2
  rw [← q2] at hr2 hs2
  rw [← q2]
  clear hk2 e2' e3' hr1 hs1 hap1 k1 q2
  have c30 := f3.cell0
  have v30 := f3.free 0
  have hr3 := hr2.other ⟨B3, 0, none⟩ (.int .i64 r2.1) (Ne.symm n3)
  have hs3 := hs2.ep f3 0 (.int .i64 r2.1)
  have g3 := f3.set0 r2.1
  have g2 := f2.other ⟨B3, 0, none⟩ (.int .i64 r2.1) n23
  have k3 := k2.setNew (p := ⟨B3, 0, none⟩) (by rw [hB2]; exact s3) (.int .i64 r2.1)
  clear hr2 hs2 f3 f2 k2
  go_wp2_with fail
  generalize w2.setCell ⟨B3, 0, none⟩ (.int .i64 r2.1) = w3 at *
  clear c30 v30
  refine (expect_calls R a2 d2 c2 r2.2.2 r2.2.1 txtMid w3 hr3 hs3 hap2 (by decide) (by decide) (by decide)).mono ?_
  rintro e w4 ⟨rfl, ⟨a4, d4, c4, hr4, hs4, hap4⟩, hk4⟩
  have f2 := g2.keep hk4 n2
  have f3 := g3.keep hk4 n3
  have k4 := k3.trans hk4
  obtain ⟨r3, q3⟩ : ∃ r, r = expect txtMid r2.2.1 r2.2.2 := ⟨_, rfl⟩
  have Q3 : Hid (r3 = expect txtMid r2.2.1 r2.2.2) := q3
  rw [← q3] at hr4 hs4
  clear q3 hk4 g2 g3 k3 hr3 hs3 hap2
  go_wp2_with fail
  refine (integer_calls 16 (Or.inr rfl) R a4 d4 c4 r3.2 r3.1 w4 hr4 hs4 hap4).mono ?_
  rintro e w5 ⟨rfl, ⟨a5, d5, c5, hr5, hs5, hap5⟩, hk5⟩
  have g2 := f2.keep hk5 n2
  have g3 := f3.keep hk5 n3
  have k5 := k4.trans hk5
  have hrg := integer16_range r3.1 r3.2
  obtain ⟨r4, q4⟩ : ∃ r, r = integer 16 r3.1 r3.2 := ⟨_, rfl⟩
  have Q4 : Hid (r4 = integer 16 r3.1 r3.2) := q4
  rw [← q4] at hr5 hs5 hrg
  rw [← q4]
  clear hk5 f2 f3 hr4 hs4 hap4 k4 q4
  have c31 := g3.cell1
  have v31 := g3.free 1
  have hr6 := hr5.other ⟨B3, 1, none⟩ (.int .i16 r4.1) (Ne.symm n3)
  have hs6 := hs5.ep g3 1 (.int .i16 r4.1)
  have f3 := g3.set1 r4.1
  have f2 := g2.other ⟨B3, 1, none⟩ (.int .i16 r4.1) n23
  have k6 := k5.setNew (p := ⟨B3, 1, none⟩) (by rw [hB2]; exact s3) (.int .i16 r4.1)
  clear hr5 hs5 g3 g2 k5
  go_wp2_with fail
  generalize w5.setCell ⟨B3, 1, none⟩ (.int .i16 r4.1) = w6 at *
  clear c31 v31
  refine (expect_calls R a5 d5 c5 r4.2.2 r4.2.1 txtClose w6 hr6 hs6 hap5 (by decide) (by decide) (by decide)).mono ?_
  rintro e w7 ⟨rfl, ⟨a7, d7, c7, hr7, hs7, hap7⟩, hk7⟩
  have g2 := f2.keep hk7 n2
  have g3 := f3.keep hk7 n3
  have k7 := k6.trans hk7
  clear hk7 f2 f3 k6 hr6 hs6 hap5
  have x30 := g3.cell0
  have x31 := g3.cell1
  have x20 := g2.cell0
  have x21 := g2.cell1
  have y20 := g2.free 0
  have y21 := g2.free 1
  go_wp2_with fail
  have h8 := (g2.set0 r2.1).set1 r4.1
  have hr8 := (hr7.other ⟨B2, 0, none⟩ (.int .i64 r2.1) (Ne.symm n2)).other ⟨B2, 1, none⟩ (.int .i16 r4.1) (Ne.symm n2)
  have hs8 := (hs7.ep g2 0 (.int .i64 r2.1)).ep (g2.set0 r2.1) 1 (.int .i16 r4.1)
  have k8 := (k7.setNew (p := ⟨B2, 0, none⟩) (by rw [hB2]; exact s2) (.int .i64 r2.1)).setNew (p := ⟨B2, 1, none⟩) (by rw [hB2]; exact s2) (.int .i16 r4.1)
  generalize (w7.setCell ⟨B2, 0, none⟩ (.int .i64 r2.1)).setCell ⟨B2, 1, none⟩ (.int .i16 r4.1) = w8 at *
  clear x30 x31 x20 x21 y20 y21 g2 g3 hr7 hs7 k7
  (try simp only [Exit.inBlock, Exit.then])
  refine bodyPost_ret (results_cell_row rfl _ w8 B2 40 _ (0, 0) _ rfl h8 Try.underlying40 rfl (show (Try.prog.info? 40).map (·.size) = some 2 by decide)) rfl ?_
  have hep : epoch l f = (r2.1, r4.1, (expect txtClose r4.2.1 r4.2.2).1, (expect txtClose r4.2.1 r4.2.2).2) := by
    unfold epoch
    rw [← Q1.out]
    simp only []
    rw [← Q2.out, ← Q3.out, ← Q4.out]
  rw [hep]
  exact ⟨rfl, ⟨a7, d7, c7, hr8, hs8, hap7⟩, k8⟩
end Go.Proofs.Qxb6625651a
