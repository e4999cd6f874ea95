/-
  The logarithm of a number between one half and one, as the model has math.archLog: what it is near to.
-/
import Derived.Test.Qxb6625468aAp
import GoSem.Extern.MathLog
namespace Go.Proofs.Qxb6625468a.Fl
open Ieee

def half : Nat := 0x3FE0000000000000
def one : Nat := 0x3FF0000000000000
def dbl : Nat := 0x4000000000000000
def mone : Nat := 0xBFF0000000000000

/-- The polynomial part of the logarithm, of the reduced word f1, with k (the word of 0 or -1). -/
def logCore (k f1 : Nat) : Option Nat :=
  (double.sub f1 one).bind fun f =>
  (double.add dbl f).bind fun den =>
  (double.div f den).bind fun s =>
  (double.mul s s).bind fun s2 =>
  (double.mul s2 s2).bind fun s4 =>
  (double.mul 0x3FC2F112DF3E5244 s4).bind fun p1 =>
  (double.add p1 0x3FC7466496CB03DE).bind fun p2 =>
  (double.mul p2 s4).bind fun p3 =>
  (double.add p3 0x3FD2492494229359).bind fun p4 =>
  (double.mul p4 s4).bind fun p5 =>
  (double.add p5 0x3FE5555555555593).bind fun p6 =>
  (double.mul s2 p6).bind fun t1 =>
  (double.mul 0x3FC39A09D078C69F s4).bind fun q1 =>
  (double.add q1 0x3FCC71C51D8E78AF).bind fun q2 =>
  (double.mul q2 s4).bind fun q3 =>
  (double.add q3 0x3FD999999997FA04).bind fun q4 =>
  (double.mul s4 q4).bind fun t2 =>
  (double.add t1 t2).bind fun r =>
  (double.mul half f).bind fun hf =>
  (double.mul hf f).bind fun hfsq =>
  (double.add r hfsq).bind fun rh =>
  (double.mul s rh).bind fun srh =>
  (double.mul 0x3DEA39EF35793C76 k).bind fun lk =>
  (double.add srh lk).bind fun inner =>
  (double.mul k 0x3FE62E42FEE00000).bind fun hk =>
  (double.sub hfsq inner).bind fun d1 =>
  (double.sub d1 f).bind fun d2 =>
  double.sub hk d2

/-- The constants' values. -/
def cL1 : Rat := 0x15555555555593 / 2 ^ 53
def cL2 : Rat := 0x1999999997FA04 / 2 ^ 54
def cL3 : Rat := 0x12492494229359 / 2 ^ 54
def cL4 : Rat := 0x1C71C51D8E78AF / 2 ^ 55
def cL5 : Rat := 0x17466496CB03DE / 2 ^ 55
def cL6 : Rat := 0x139A09D078C69F / 2 ^ 55
def cL7 : Rat := 0x12F112DF3E5244 / 2 ^ 55
def cHi : Rat := 0x162E42FEE00000 / 2 ^ 53
def cLo : Rat := 0x1A39EF35793C76 / 2 ^ 85

theorem apL1 : Ap 0x3FE5555555555593 cL1 0 1 := Ap.word _ false 0x15555555555593 (-53) _ _ (by decide +kernel) (by decide +kernel) (by decide +kernel) (by decide +kernel)
theorem apL2 : Ap 0x3FD999999997FA04 cL2 0 1 := Ap.word _ false 0x1999999997FA04 (-54) _ _ (by decide +kernel) (by decide +kernel) (by decide +kernel) (by decide +kernel)
theorem apL3 : Ap 0x3FD2492494229359 cL3 0 1 := Ap.word _ false 0x12492494229359 (-54) _ _ (by decide +kernel) (by decide +kernel) (by decide +kernel) (by decide +kernel)
theorem apL4 : Ap 0x3FCC71C51D8E78AF cL4 0 1 := Ap.word _ false 0x1C71C51D8E78AF (-55) _ _ (by decide +kernel) (by decide +kernel) (by decide +kernel) (by decide +kernel)
theorem apL5 : Ap 0x3FC7466496CB03DE cL5 0 1 := Ap.word _ false 0x17466496CB03DE (-55) _ _ (by decide +kernel) (by decide +kernel) (by decide +kernel) (by decide +kernel)
theorem apL6 : Ap 0x3FC39A09D078C69F cL6 0 1 := Ap.word _ false 0x139A09D078C69F (-55) _ _ (by decide +kernel) (by decide +kernel) (by decide +kernel) (by decide +kernel)
theorem apL7 : Ap 0x3FC2F112DF3E5244 cL7 0 1 := Ap.word _ false 0x12F112DF3E5244 (-55) _ _ (by decide +kernel) (by decide +kernel) (by decide +kernel) (by decide +kernel)
theorem apHi : Ap 0x3FE62E42FEE00000 cHi 0 1 := Ap.word _ false 0x162E42FEE00000 (-53) _ _ (by decide +kernel) (by decide +kernel) (by decide +kernel) (by decide +kernel)
theorem apLo : Ap 0x3DEA39EF35793C76 cLo 0 1 := Ap.word _ false 0x1A39EF35793C76 (-85) _ _ (by decide +kernel) (by decide +kernel) (by decide +kernel) (by decide +kernel)
theorem apOne : Ap one 1 0 1 := Ap.word _ false (2 ^ 52) (-52) _ _ (by decide +kernel) (by decide +kernel) (by decide +kernel) (by decide +kernel)
theorem apMone : Ap mone (-1) 0 1 := Ap.word _ true (2 ^ 52) (-52) _ _ (by decide +kernel) (by decide +kernel) (by decide +kernel) (by decide +kernel)
theorem apZero : Ap 0 0 0 1 := Ap.word _ false 0 (-1074) _ _ (by decide +kernel) (by decide +kernel) (by decide +kernel) (by decide +kernel)
theorem apDbl : Ap dbl 2 0 2 := Ap.word _ false (2 ^ 52) (-51) _ _ (by decide +kernel) (by decide +kernel) (by decide +kernel) (by decide +kernel)
theorem apHalf : Ap half (1 / 2) 0 (1 / 2) := Ap.word _ false (2 ^ 52) (-53) _ _ (by decide +kernel) (by decide +kernel) (by decide +kernel) (by decide +kernel)

/-- The odd polynomial that the logarithm comes to. -/
def poly (s : Rat) : Rat :=
  s * s * (cL1 + s * s * (s * s) * (cL3 + s * s * (s * s) * (cL5 + cL7 * (s * s * (s * s))))) + s * s * (s * s) * (cL2 + s * s * (s * s) * (cL4 + cL6 * (s * s * (s * s))))
def lnx (s : Rat) : Rat := 2 * s + s * poly s

theorem Ap.add0 {x y : Nat} {a b ea eb A B : Rat} (hx : Ap x a ea A) (hy : Ap y b eb B) (C e : Rat) (hC : A + B ≤ C) (he : ea + eb + (C + ea + eb) * u ≤ e) (hl : lo ≤ C + ea + eb) (hh : C + ea + eb ≤ hi) :
    ∃ r, double.add x y = some r ∧ Ap r (a + b) e C := by
  obtain ⟨va, ia, a1, a2, a3, a4⟩ := id hx
  obtain ⟨vb, ib, b1, b2, b3, b4⟩ := id hy
  exact Ap.add hx hy C e (by grind) (by grind) he hl hh
theorem Ap.sub0 {x y : Nat} {a b ea eb A B : Rat} (hx : Ap x a ea A) (hy : Ap y b eb B) (C e : Rat) (hC : A + B ≤ C) (he : ea + eb + (C + ea + eb) * u ≤ e) (hl : lo ≤ C + ea + eb) (hh : C + ea + eb ≤ hi) :
    ∃ r, double.sub x y = some r ∧ Ap r (a - b) e C := by
  obtain ⟨va, ia, a1, a2, a3, a4⟩ := id hx
  obtain ⟨vb, ib, b1, b2, b3, b4⟩ := id hy
  exact Ap.sub hx hy C e (by grind) (by grind) he hl hh
theorem div_bd {a b C : Rat} (hb : 0 < b) (h1 : -C * b ≤ a) (h2 : a ≤ C * b) : -C ≤ a / b ∧ a / b ≤ C := by
  have e : a / b * b = a := Rat.div_mul_cancel (by grind)
  exact ⟨Rat.le_of_mul_le_mul_right (by rw [e]; exact h1) hb, Rat.le_of_mul_le_mul_right (by rw [e]; exact h2) hb⟩

theorem ln_eq {f s R kk : Rat} (h : s * (2 + f) = f) :
    kk * cHi - ((1 / 2 * f * f - (s * (R + 1 / 2 * f * f) + cLo * kk)) - f) = kk * (cHi + cLo) + (2 * s + s * R) := by
  grind

set_option maxHeartbeats 1000000 in
theorem logCore_ap {k f1 : Nat} {kk m : Rat} (hk : Ap k kk 0 1) (hf1 : Ap f1 m (1 / 2 ^ 50) 2) (hm1 : 7 / 10 ≤ m) (hm2 : m ≤ 71 / 50) :
    ∃ y, logCore k f1 = some y ∧ Ap y (kk * (cHi + cLo) + lnx ((m - 1) / (2 + (m - 1)))) (1 / 2 ^ 42) (2870022417 / 2 ^ 30) := by
  have hb0 : (0 : Rat) < 2 + (m - 1) := by grind
  obtain ⟨hs1, hs2⟩ := div_bd (a := m - 1) (b := 2 + (m - 1)) (C := 1 / 4) hb0 (by grind) (by grind)
  have hb1 : 1 ≤ 2 + (m - 1) - 1 / 2 ^ 48 := by grind
  have hse : (m - 1) / (2 + (m - 1)) * (2 + (m - 1)) = m - 1 := Rat.div_mul_cancel (by grind)
  obtain ⟨f, e_f, h_f⟩ := Ap.sub hf1 apOne (1 / 2) (1 / 2 ^ 49) (by grind) (by grind) (by decide +kernel) (by decide +kernel) (by decide +kernel)
  obtain ⟨den, e_den, h_den⟩ := Ap.add0 apDbl h_f (5 / 2) (1 / 2 ^ 48) (by decide +kernel) (by decide +kernel) (by decide +kernel) (by decide +kernel)
  obtain ⟨s, e_s, h_s⟩ := Ap.div h_f h_den (1 / 4) (1 / 2 ^ 48) hb1 (by decide +kernel) hs1 hs2 (by decide +kernel) (by decide +kernel) (by decide +kernel)
  obtain ⟨s2, e_s2, h_s2⟩ := Ap.mul h_s h_s (1 / 16) (1 / 2 ^ 48) (by decide +kernel) (by decide +kernel) (by decide +kernel) (by decide +kernel)
  obtain ⟨s4, e_s4, h_s4⟩ := Ap.mul h_s2 h_s2 (1 / 2 ^ 8) (1 / 2 ^ 50) (by decide +kernel) (by decide +kernel) (by decide +kernel) (by decide +kernel)
  obtain ⟨p1, e_p1, h_p1⟩ := Ap.mul apL7 h_s4 (1 / 2 ^ 8) (1 / 2 ^ 49) (by decide +kernel) (by decide +kernel) (by decide +kernel) (by decide +kernel)
  obtain ⟨p2, e_p2, h_p2⟩ := Ap.add0 h_p1 apL5 (257 / 2 ^ 8) (1 / 2 ^ 48) (by decide +kernel) (by decide +kernel) (by decide +kernel) (by decide +kernel)
  obtain ⟨p3, e_p3, h_p3⟩ := Ap.mul h_p2 h_s4 (257 / 2 ^ 16) (1 / 2 ^ 49) (by decide +kernel) (by decide +kernel) (by decide +kernel) (by decide +kernel)
  obtain ⟨p4, e_p4, h_p4⟩ := Ap.add0 h_p3 apL3 (65793 / 2 ^ 16) (1 / 2 ^ 48) (by decide +kernel) (by decide +kernel) (by decide +kernel) (by decide +kernel)
  obtain ⟨p5, e_p5, h_p5⟩ := Ap.mul h_p4 h_s4 (65793 / 2 ^ 24) (1 / 2 ^ 49) (by decide +kernel) (by decide +kernel) (by decide +kernel) (by decide +kernel)
  obtain ⟨p6, e_p6, h_p6⟩ := Ap.add0 h_p5 apL1 (16843009 / 2 ^ 24) (1 / 2 ^ 48) (by decide +kernel) (by decide +kernel) (by decide +kernel) (by decide +kernel)
  obtain ⟨t1, e_t1, h_t1⟩ := Ap.mul h_s2 h_p6 (16843009 / 2 ^ 28) (1 / 2 ^ 47) (by decide +kernel) (by decide +kernel) (by decide +kernel) (by decide +kernel)
  obtain ⟨q1, e_q1, h_q1⟩ := Ap.mul apL6 h_s4 (1 / 2 ^ 8) (1 / 2 ^ 49) (by decide +kernel) (by decide +kernel) (by decide +kernel) (by decide +kernel)
  obtain ⟨q2, e_q2, h_q2⟩ := Ap.add0 h_q1 apL4 (257 / 2 ^ 8) (1 / 2 ^ 48) (by decide +kernel) (by decide +kernel) (by decide +kernel) (by decide +kernel)
  obtain ⟨q3, e_q3, h_q3⟩ := Ap.mul h_q2 h_s4 (257 / 2 ^ 16) (1 / 2 ^ 49) (by decide +kernel) (by decide +kernel) (by decide +kernel) (by decide +kernel)
  obtain ⟨q4, e_q4, h_q4⟩ := Ap.add0 h_q3 apL2 (65793 / 2 ^ 16) (1 / 2 ^ 48) (by decide +kernel) (by decide +kernel) (by decide +kernel) (by decide +kernel)
  obtain ⟨t2, e_t2, h_t2⟩ := Ap.mul h_s4 h_q4 (65793 / 2 ^ 24) (1 / 2 ^ 49) (by decide +kernel) (by decide +kernel) (by decide +kernel) (by decide +kernel)
  obtain ⟨r, e_r, h_r⟩ := Ap.add0 h_t1 h_t2 (17895697 / 2 ^ 28) (1 / 2 ^ 46) (by decide +kernel) (by decide +kernel) (by decide +kernel) (by decide +kernel)
  obtain ⟨hf, e_hf, h_hf⟩ := Ap.mul apHalf h_f (1 / 4) (1 / 2 ^ 49) (by decide +kernel) (by decide +kernel) (by decide +kernel) (by decide +kernel)
  obtain ⟨hfsq, e_hfsq, h_hfsq⟩ := Ap.mul h_hf h_f (1 / 8) (1 / 2 ^ 49) (by decide +kernel) (by decide +kernel) (by decide +kernel) (by decide +kernel)
  obtain ⟨rh, e_rh, h_rh⟩ := Ap.add0 h_r h_hfsq (51450129 / 2 ^ 28) (1 / 2 ^ 45) (by decide +kernel) (by decide +kernel) (by decide +kernel) (by decide +kernel)
  obtain ⟨srh, e_srh, h_srh⟩ := Ap.mul h_s h_rh (51450129 / 2 ^ 30) (1 / 2 ^ 46) (by decide +kernel) (by decide +kernel) (by decide +kernel) (by decide +kernel)
  obtain ⟨lk, e_lk, h_lk⟩ := Ap.mul apLo hk (1) (1 / 2 ^ 52) (by decide +kernel) (by decide +kernel) (by decide +kernel) (by decide +kernel)
  obtain ⟨inner, e_inner, h_inner⟩ := Ap.add0 h_srh h_lk (1125191953 / 2 ^ 30) (1 / 2 ^ 45) (by decide +kernel) (by decide +kernel) (by decide +kernel) (by decide +kernel)
  obtain ⟨hk, e_hk, h_hk⟩ := Ap.mul hk apHi (1) (1 / 2 ^ 52) (by decide +kernel) (by decide +kernel) (by decide +kernel) (by decide +kernel)
  obtain ⟨d1, e_d1, h_d1⟩ := Ap.sub0 h_hfsq h_inner (1259409681 / 2 ^ 30) (1 / 2 ^ 44) (by decide +kernel) (by decide +kernel) (by decide +kernel) (by decide +kernel)
  obtain ⟨d2, e_d2, h_d2⟩ := Ap.sub0 h_d1 h_f (1796280593 / 2 ^ 30) (1 / 2 ^ 43) (by decide +kernel) (by decide +kernel) (by decide +kernel) (by decide +kernel)
  obtain ⟨y, e_y, h_y⟩ := Ap.sub0 h_hk h_d2 (2870022417 / 2 ^ 30) (1 / 2 ^ 42) (by decide +kernel) (by decide +kernel) (by decide +kernel) (by decide +kernel)
  refine ⟨y, ?_, ?_⟩
  · unfold logCore
    rw [e_f, Option.bind_some, e_den, Option.bind_some, e_s, Option.bind_some, e_s2, Option.bind_some, e_s4, Option.bind_some, e_p1, Option.bind_some, e_p2, Option.bind_some, e_p3, Option.bind_some, e_p4, Option.bind_some, e_p5, Option.bind_some, e_p6, Option.bind_some, e_t1, Option.bind_some, e_q1, Option.bind_some, e_q2, Option.bind_some, e_q3, Option.bind_some, e_q4, Option.bind_some, e_t2, Option.bind_some, e_r, Option.bind_some, e_hf, Option.bind_some, e_hfsq, Option.bind_some, e_rh, Option.bind_some, e_srh, Option.bind_some, e_lk, Option.bind_some, e_inner, Option.bind_some, e_hk, Option.bind_some, e_d1, Option.bind_some, e_d2, Option.bind_some]
    exact e_y
  · have e := ln_eq (kk := kk) (R := poly ((m - 1) / (2 + (m - 1)))) hse
    unfold lnx
    rw [← e]
    have e2 : poly ((m - 1) / (2 + (m - 1))) = (((m - 1) / (2 + (m - 1))) * ((m - 1) / (2 + (m - 1)))) * (((cL7 * ((((m - 1) / (2 + (m - 1))) * ((m - 1) / (2 + (m - 1)))) * (((m - 1) / (2 + (m - 1))) * ((m - 1) / (2 + (m - 1))))) + cL5) * ((((m - 1) / (2 + (m - 1))) * ((m - 1) / (2 + (m - 1)))) * (((m - 1) / (2 + (m - 1))) * ((m - 1) / (2 + (m - 1))))) + cL3) * ((((m - 1) / (2 + (m - 1))) * ((m - 1) / (2 + (m - 1)))) * (((m - 1) / (2 + (m - 1))) * ((m - 1) / (2 + (m - 1))))) + cL1) + ((((m - 1) / (2 + (m - 1))) * ((m - 1) / (2 + (m - 1)))) * (((m - 1) / (2 + (m - 1))) * ((m - 1) / (2 + (m - 1))))) * ((cL6 * ((((m - 1) / (2 + (m - 1))) * ((m - 1) / (2 + (m - 1)))) * (((m - 1) / (2 + (m - 1))) * ((m - 1) / (2 + (m - 1))))) + cL4) * ((((m - 1) / (2 + (m - 1))) * ((m - 1) / (2 + (m - 1)))) * (((m - 1) / (2 + (m - 1))) * ((m - 1) / (2 + (m - 1))))) + cL2) := by
      unfold poly
      generalize (m - 1) / (2 + (m - 1)) = s
      grind
    rw [e2]
    exact h_y

end Go.Proofs.Qxb6625468a.Fl
