/-
  A word that is near a number: how nearness goes through one operation. Plain: no Go in sight.
-/
import Derived.Test.Qxb6625468aFloat
namespace Go.Proofs.Qxb6625468a.Fl
open Ieee

/-- The word x is a finite double within e of c; c is at most A in size. -/
def Ap (x : Nat) (c e A : Rat) : Prop := ∃ v, Is x v ∧ c - e ≤ v ∧ v ≤ c + e ∧ -A ≤ c ∧ c ≤ A

theorem mul_bd {a d A e : Rat} (h1 : -A ≤ a) (h2 : a ≤ A) (h3 : -e ≤ d) (h4 : d ≤ e) : -(A * e) ≤ a * d ∧ a * d ≤ A * e := by
  have p1 := Rat.mul_nonneg (show 0 ≤ A - a by grind) (show 0 ≤ e - d by grind)
  have p2 := Rat.mul_nonneg (show 0 ≤ A + a by grind) (show 0 ≤ e + d by grind)
  have p3 := Rat.mul_nonneg (show 0 ≤ A - a by grind) (show 0 ≤ e + d by grind)
  have p4 := Rat.mul_nonneg (show 0 ≤ A + a by grind) (show 0 ≤ e - d by grind)
  constructor <;> grind

theorem Ap.weaken {x : Nat} {c e A e' A' : Rat} (h : Ap x c e A) (he : e ≤ e') (hA : A ≤ A') : Ap x c e' A' := by
  obtain ⟨v, h1, h2, h3, h4, h5⟩ := h
  exact ⟨v, h1, by grind, by grind, by grind, by grind⟩

theorem Ap.add {x y : Nat} {a b ea eb A B : Rat} (hx : Ap x a ea A) (hy : Ap y b eb B) (C e : Rat) (h1 : -C ≤ a + b) (h2 : a + b ≤ C) (he : ea + eb + (C + ea + eb) * u ≤ e) (hl : lo ≤ C + ea + eb) (hh : C + ea + eb ≤ hi) :
    ∃ r, double.add x y = some r ∧ Ap r (a + b) e C := by
  obtain ⟨va, ia, a1, a2, a3, a4⟩ := hx
  obtain ⟨vb, ib, b1, b2, b3, b4⟩ := hy
  obtain ⟨r, v, h3, h4, h5, h6⟩ := add_near ia ib (B := C + ea + eb) (by grind) (by grind) hl hh
  exact ⟨r, h3, v, h4, by grind, by grind, h1, h2⟩

theorem Ap.sub {x y : Nat} {a b ea eb A B : Rat} (hx : Ap x a ea A) (hy : Ap y b eb B) (C e : Rat) (h1 : -C ≤ a - b) (h2 : a - b ≤ C) (he : ea + eb + (C + ea + eb) * u ≤ e) (hl : lo ≤ C + ea + eb) (hh : C + ea + eb ≤ hi) :
    ∃ r, double.sub x y = some r ∧ Ap r (a - b) e C := by
  obtain ⟨va, ia, a1, a2, a3, a4⟩ := hx
  obtain ⟨vb, ib, b1, b2, b3, b4⟩ := hy
  obtain ⟨r, v, h3, h4, h5, h6⟩ := sub_near ia ib (B := C + ea + eb) (by grind) (by grind) hl hh
  exact ⟨r, h3, v, h4, by grind, by grind, h1, h2⟩

theorem Ap.mul {x y : Nat} {a b ea eb A B : Rat} (hx : Ap x a ea A) (hy : Ap y b eb B) (C e : Rat) (hC : A * B ≤ C) (he : (A * eb + B * ea + ea * eb) + (A + ea) * (B + eb) * u ≤ e) (hl : lo ≤ (A + ea) * (B + eb)) (hh : (A + ea) * (B + eb) ≤ hi) :
    ∃ r, double.mul x y = some r ∧ Ap r (a * b) e C := by
  obtain ⟨va, ia, a1, a2, a3, a4⟩ := hx
  obtain ⟨vb, ib, b1, b2, b3, b4⟩ := hy
  obtain ⟨da, rfl⟩ : ∃ da, va = a + da := ⟨va - a, by grind⟩
  obtain ⟨db, rfl⟩ : ∃ db, vb = b + db := ⟨vb - b, by grind⟩
  have m1 := mul_bd a3 a4 (show -eb ≤ db by grind) (show db ≤ eb by grind)
  have m2 := mul_bd b3 b4 (show -ea ≤ da by grind) (show da ≤ ea by grind)
  have m3 := mul_bd (show -ea ≤ da by grind) (show da ≤ ea by grind) (show -eb ≤ db by grind) (show db ≤ eb by grind)
  have m4 := mul_bd a3 a4 b3 b4
  have m5 := mul_bd (show -(A + ea) ≤ a + da by grind) (show a + da ≤ A + ea by grind) (show -(B + eb) ≤ b + db by grind) (show b + db ≤ B + eb by grind)
  obtain ⟨r, v, h3, h4, h5, h6⟩ := mul_near ia ib m5.1 m5.2 hl hh
  exact ⟨r, h3, v, h4, by grind, by grind, by grind, by grind⟩

theorem quot_bd {t v n N : Rat} (h : t * v = n) (hv : 1 ≤ v) (h1 : -N ≤ n) (h2 : n ≤ N) : -N ≤ t ∧ t ≤ N := by
  have hN : 0 ≤ N := by grind
  constructor
  · rcases (Rat.le_total : -N ≤ t ∨ t ≤ -N) with hc | hc
    · exact hc
    · have := Rat.mul_nonneg (show 0 ≤ -N - t by grind) (show 0 ≤ v - 1 by grind)
      have := Rat.mul_nonneg hN (show 0 ≤ v - 1 by grind)
      grind
  · rcases (Rat.le_total : t ≤ N ∨ N ≤ t) with hc | hc
    · exact hc
    · have := Rat.mul_nonneg (show 0 ≤ t - N by grind) (show 0 ≤ v - 1 by grind)
      have := Rat.mul_nonneg hN (show 0 ≤ v - 1 by grind)
      grind

theorem Ap.div {x y : Nat} {a b ea eb A B : Rat} (hx : Ap x a ea A) (hy : Ap y b eb B) (C e : Rat) (hb : 1 ≤ b - eb) (heb : 0 ≤ eb) (h1 : -C ≤ a / b) (h2 : a / b ≤ C) (he : (ea + C * eb) + 3 * ((C + (ea + C * eb)) * u) ≤ e) (hl : lo ≤ C + (ea + C * eb)) (hh : 2 * (C + (ea + C * eb)) ≤ hi) :
    ∃ r, double.div x y = some r ∧ Ap r (a / b) e C := by
  obtain ⟨va, ia, a1, a2, a3, a4⟩ := hx
  obtain ⟨vb, ib, b1, b2, b3, b4⟩ := hy
  have hvb : 1 ≤ vb := by grind
  have hvb0 : vb ≠ 0 := by grind
  have hb0 : b ≠ 0 := by grind
  have e1 : va / vb * vb = va := Rat.div_mul_cancel hvb0
  have e2 : a / b * b = a := Rat.div_mul_cancel hb0
  obtain ⟨q, hq⟩ : ∃ q, q = a / b := ⟨_, rfl⟩
  rw [← hq] at e2 h1 h2 ⊢
  have m1 := mul_bd h1 h2 (show -eb ≤ vb - b by grind) (show vb - b ≤ eb by grind)
  have q1 := quot_bd (t := va / vb - q) (v := vb) (n := (va - a) - q * (vb - b)) (N := ea + C * eb) (by grind) hvb (by grind) (by grind)
  obtain ⟨r, v, h3, h4, h5, h6⟩ := div_near ia ib hvb0 (B := C + (ea + C * eb)) (by grind) (by grind) hl hh
  exact ⟨r, h3, v, h4, by grind, by grind, h1, h2⟩

/-- A closed word. -/
theorem Ap.word (x : Nat) (s : Bool) (m : Nat) (p : Int) (c A : Rat) (h : double.read x = .number s m p) (hc : c = sgn s * (m : Rat) * (2 : Rat) ^ p) (h1 : -A ≤ c) (h2 : c ≤ A) : Ap x c 0 A :=
  ⟨c, ⟨s, m, p, h, hc⟩, by grind, by grind, h1, h2⟩

end Go.Proofs.Qxb6625468a.Fl
