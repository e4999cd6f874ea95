/-
  The walks of math.Log, math.log2, math.Log2 over the model's math.archLog.
-/
import Derived.Test.Qxb6625468aMath
import GoSem.Extern.MathLog
namespace Go.Proofs.Qxb6625468a
open Go.ChangeShapes Go.WideShapes Go.ChangeAt Go.RowKit
set_option linter.unusedVariables false
open Extern.MathAsm in
theorem run_add {P : Program} {w : World} {a b r : Nat} (h : Ieee.double.add a b = some r) : (Extern.MathAsm.add a b).run P w = .ok r w := by
  have e : FloatKind.f64.format = Ieee.double := rfl
  simp [Extern.MathAsm.add, arith, Op.floatArith, e, h]
open Extern.MathAsm in
theorem run_sub {P : Program} {w : World} {a b r : Nat} (h : Ieee.double.sub a b = some r) : (Extern.MathAsm.sub a b).run P w = .ok r w := by
  have e : FloatKind.f64.format = Ieee.double := rfl
  simp [Extern.MathAsm.sub, arith, Op.floatArith, e, h]
open Extern.MathAsm in
theorem run_mul {P : Program} {w : World} {a b r : Nat} (h : Ieee.double.mul a b = some r) : (Extern.MathAsm.mul a b).run P w = .ok r w := by
  have e : FloatKind.f64.format = Ieee.double := rfl
  simp [Extern.MathAsm.mul, arith, Op.floatArith, e, h]
open Extern.MathAsm in
theorem run_div {P : Program} {w : World} {a b r : Nat} (h : Ieee.double.div a b = some r) : (Extern.MathAsm.div a b).run P w = .ok r w := by
  have e : FloatKind.f64.format = Ieee.double := rfl
  simp [Extern.MathAsm.div, arith, Op.floatArith, e, h]

/-- What archLog does behind the reduction. -/
def logTail (k f1 : Nat) : Sem Value := do
  let f ← Extern.MathAsm.sub f1 Extern.MathAsm.one
  let s ← Extern.MathAsm.div f (← Extern.MathAsm.add Extern.MathAsm.two f)
  let s2 ← Extern.MathAsm.mul s s
  let s4 ← Extern.MathAsm.mul s2 s2
  let t1 ← Extern.MathAsm.mul s2 (← Extern.MathAsm.add (← Extern.MathAsm.mul (← Extern.MathAsm.add (← Extern.MathAsm.mul (← Extern.MathAsm.add (← Extern.MathAsm.mul 0x3FC2F112DF3E5244 s4) 0x3FC7466496CB03DE) s4) 0x3FD2492494229359) s4) 0x3FE5555555555593)
  let t2 ← Extern.MathAsm.mul s4 (← Extern.MathAsm.add (← Extern.MathAsm.mul (← Extern.MathAsm.add (← Extern.MathAsm.mul 0x3FC39A09D078C69F s4) 0x3FCC71C51D8E78AF) s4) 0x3FD999999997FA04)
  let r ← Extern.MathAsm.add t1 t2
  let hfsq ← Extern.MathAsm.mul (← Extern.MathAsm.mul Extern.MathAsm.half f) f
  let inner ← Extern.MathAsm.add (← Extern.MathAsm.mul s (← Extern.MathAsm.add r hfsq)) (← Extern.MathAsm.mul 0x3DEA39EF35793C76 k)
  pure (.float .f64 (← Extern.MathAsm.sub (← Extern.MathAsm.mul k 0x3FE62E42FEE00000) (← Extern.MathAsm.sub (← Extern.MathAsm.sub hfsq inner) f)))

theorem run_logTail {P : Program} {w : World} {k f1 y : Nat} (h : Fl.logCore k f1 = some y) : (logTail k f1).run P w = .ok (.float .f64 y) w := by
  unfold Fl.logCore at h
  simp only [Option.bind_eq_some_iff] at h
  obtain ⟨f, e_f, den, e_den, s, e_s, s2, e_s2, s4, e_s4, p1, e_p1, p2, e_p2, p3, e_p3, p4, e_p4, p5, e_p5, p6, e_p6, t1, e_t1, q1, e_q1, q2, e_q2, q3, e_q3, q4, e_q4, t2, e_t2, r, e_r, hf, e_hf, hfsq, e_hfsq, rh, e_rh, srh, e_srh, lk, e_lk, inner, e_inner, hk, e_hk, d1, e_d1, d2, e_d2, hy⟩ := h
  unfold logTail
  have c1 : Extern.MathAsm.one = Fl.one := rfl
  have c2 : Extern.MathAsm.two = Fl.dbl := rfl
  have c3 : Extern.MathAsm.half = Fl.half := rfl
  rw [c1, c2, c3]
  simp only [Sem.run_bind, Sem.run_pure, Result.andThen, run_sub e_f, run_add e_den, run_div e_s, run_mul e_s2, run_mul e_s4, run_mul e_p1, run_add e_p2, run_mul e_p3, run_add e_p4, run_mul e_p5, run_add e_p6, run_mul e_t1, run_mul e_q1, run_add e_q2, run_mul e_q3, run_add e_q4, run_mul e_t2, run_add e_r, run_mul e_hf, run_mul e_hfsq, run_add e_rh, run_mul e_srh, run_mul e_lk, run_add e_inner, run_mul e_hk, run_sub e_d1, run_sub e_d2, run_sub hy]

open Extern.MathAsm in
theorem archLog_eq (x : Nat) : Extern.MathLog.archLog #[.float .f64 x] = (do
    if x % 2 ^ 63 == 0 then return .float .f64 negInf
    if x ≥ 2 ^ 63 then return .float .f64 nan
    if x ≥ posInf then return .float .f64 x
    let f1 := x % 2 ^ 52 + half
    let k := ofInt32 (Int.ofNat (x / 2 ^ 52) - 0x3FE)
    let small := !lt 0x3FE6A09E667F3BCD f1
    let k ← sub k (if small then one else 0)
    let f1 ← mul f1 (← add (if small then one else 0) one)
    logTail k f1) := rfl

theorem run_archLog {P : Program} {w : World} {r y : Nat} (hr : r < 2 ^ 52) (h : Fl.logW (Fl.half + r) = some y) :
    (Extern.MathLog.archLog #[.float .f64 (Fl.half + r)]).run P w = .ok (.float .f64 y) w := by
  have hx : Fl.half = 1022 * 2 ^ 52 := rfl
  have e1 : ((Fl.half + r) % 2 ^ 63 == 0) = false := beq_eq_false_iff_ne.2 (by rw [hx]; omega)
  have e2 : ¬ (Fl.half + r ≥ 2 ^ 63) := by rw [hx]; omega
  have e3 : ¬ (Fl.half + r ≥ Extern.MathAsm.posInf) := by rw [hx]; unfold Extern.MathAsm.posInf; omega
  have e4 : (Fl.half + r) % 2 ^ 52 + Extern.MathAsm.half = Fl.half + r := by show (Fl.half + r) % 2 ^ 52 + Fl.half = _; rw [hx]; omega
  have e5 : (Fl.half + r) / 2 ^ 52 = 1022 := by rw [hx]; omega
  have e6 : Extern.MathAsm.ofInt32 (Int.ofNat 1022 - 0x3FE) = 0 := by decide +kernel
  rw [archLog_eq]
  simp only [e1, e2, e3, if_false, Bool.false_eq_true, e4, e5, e6]
  have e7 : (!Extern.MathAsm.lt 0x3FE6A09E667F3BCD (Fl.half + r)) = Fl.smallW (Fl.half + r) := rfl
  rw [e7]
  unfold Fl.logW at h
  cases hs : Fl.smallW (Fl.half + r) with
  | true =>
    rw [hs, if_pos rfl] at h
    obtain ⟨f1, h1, h2⟩ := Option.bind_eq_some_iff.1 h
    have a1 : Ieee.double.sub 0 Extern.MathAsm.one = some Fl.mone := by decide +kernel
    have a2 : Ieee.double.add Extern.MathAsm.one Extern.MathAsm.one = some Fl.dbl := by decide +kernel
    simp only [if_true, Sem.run_bind, Result.andThen, run_sub a1, run_add a2, run_mul h1, run_logTail h2]
  | false =>
    rw [hs, if_neg (by decide)] at h
    obtain ⟨f1, h1, h2⟩ := Option.bind_eq_some_iff.1 h
    have a1 : Ieee.double.sub 0 0 = some 0 := by decide +kernel
    have a2 : Ieee.double.add 0 Extern.MathAsm.one = some Fl.one := by decide +kernel
    simp only [if_false, Bool.false_eq_true, Sem.run_bind, Result.andThen, run_sub a1, run_add a2, run_mul h1, run_logTail h2]

theorem run_callLog {w : World} {r y : Nat} (hr : r < 2 ^ 52) (h : Fl.logW (Fl.half + r) = some y) :
    (callFunc 26 #[.float .f64 (Fl.half + r)]).run Try.prog w = .ok (.value (.float .f64 y)) w := by
  rw [run_callFunc_extern Try.func26 (by kernel_rfl) (by kernel_rfl) (by kernel_rfl) (e := Extern.MathLog.archLog) (by kernel_rfl), run_archLog hr h]
  rfl
theorem run_callLog0 {w : World} : (callFunc 26 #[.float .f64 0]).run Try.prog w = .ok (.value (.float .f64 Fl.negInf)) w := by
  rw [run_callFunc_extern Try.func26 (by kernel_rfl) (by kernel_rfl) (by kernel_rfl) (e := Extern.MathLog.archLog) (by kernel_rfl)]
  rfl

theorem Log_calls (r y : Nat) (hr : r < 2 ^ 52) (h : Fl.logW (Fl.half + r) = some y) (w : World) :
    Calls Try.prog 23 #[.float .f64 (Fl.half + r)] w fun e w' => e = .returned (.float .f64 y) ∧ w = w' := by
  have hl := fun w => run_callLog (w := w) hr h
  go_enter Try.func23, Try.ntmps23
  go_wp2
  go_ret
  exact ⟨rfl, rfl⟩
theorem Log_zero (w : World) : Calls Try.prog 23 #[.float .f64 0] w fun e w' => e = .returned (.float .f64 Fl.negInf) ∧ w = w' := by
  have hl := fun w => run_callLog0 (w := w)
  go_enter Try.func23, Try.ntmps23
  go_wp2
  go_ret
  exact ⟨rfl, rfl⟩

theorem ret_f {a a' : Nat} (h1 : a = a') : Ending.returned (.float .f64 a) = .returned (.float .f64 a') := by rw [h1]

theorem half_eq (r : Nat) (hr : r < 2 ^ 52) : (FloatKind.f64.format.order (Fl.half + r) 4602678819172646912 == some .eq) = decide (r = 0) := by
  have e : FloatKind.f64.format = Ieee.double := rfl
  have h1 : Fl.Is 4602678819172646912 (Fl.fr 0) := Fl.is_half 0 (by decide)
  rw [e, Fl.order_is (Fl.is_half r hr) h1]
  have hd : ∀ n : Nat, Fl.fr n = (n : Rat) / 2 ^ 53 + 1 / 2 := by
    intro n
    unfold Fl.fr
    rw [Rat.natCast_add]
    have : ((2 ^ 52 : Nat) : Rat) = 2 ^ 52 := by decide +kernel
    rw [this]
    grind
  by_cases hz : r = 0
  · subst hz
    rw [if_neg Rat.lt_irrefl, if_pos rfl]
    rfl
  · have hp : (1 : Rat) ≤ (r : Rat) := Fl.nat_le (show 1 ≤ r by omega)
    have h0 : ((0 : Nat) : Rat) = 0 := rfl
    have a := hd r
    have b := hd 0
    rw [h0] at b
    rw [if_neg (by grind), if_neg (by grind), decide_eq_false hz]
    rfl

theorem log2_calls (q b : Nat) (v : Rat) (hv : Fl.Is q v) (hlo : Fl.lo ≤ v) (hhi : v ≤ Fl.hi) (hq : q < 2047 * 2 ^ 52) (h : Fl.log2W q = some b) (w : World) :
    Calls Try.prog 19 #[.float .f64 q] w fun e w' => e = .returned (.float .f64 b) ∧ w = w' := by
  obtain ⟨o1, o2, o3, o4⟩ := ord_facts hv hlo hhi
  have hh := half_eq (q % 2 ^ 52) (by omega)
  unfold Fl.log2W at h
  by_cases hr : q % 2 ^ 52 = 0
  · rw [if_pos hr] at h
    rw [decide_eq_true hr] at hh
    have H : Hid (Fl.ofI ((q / 2 ^ 52 : Nat) - 1023 : Int) = b) := Option.some.inj h
    clear h hr
    go_enter Try.func19, Try.ntmps19
    go_wp2_with fail
    refine (Frexp_calls q _ hq o1 o2 o3 o4).mono ?_
    rintro e w1 ⟨rfl, rfl⟩
    clear o1 o2 o3 o4
    generalize hx : Fl.half + q % 2 ^ 52 = x at hh
    generalize hE : q / 2 ^ 52 = E at H
    have hE' : E ≤ 2047 := by omega
    clear hx hE
    go_wp2
    go_ret
    exact ⟨ret_f (by rw [← H.out, show ((E : Int) - 1023) = (E : Int) - 1022 - 1 by omega]; rfl), rfl⟩
  · rw [if_neg hr] at h
    rw [decide_eq_false hr] at hh
    obtain ⟨y, hy, h⟩ := Option.bind_eq_some_iff.1 h
    obtain ⟨z, hz, h⟩ := Option.bind_eq_some_iff.1 h
    have hm := fun w => run_float_arith (P := Try.prog) w .mul 36 .f64 y 4609176140021203710 z hz
    have ha := fun w => run_float_arith (P := Try.prog) w .add 36 .f64 z (floatOfInt .f64 ((q / 2 ^ 52 : Nat) - 1022 : Int)) b h
    clear h hz
    go_enter Try.func19, Try.ntmps19
    go_wp2_with fail
    refine (Frexp_calls q _ hq o1 o2 o3 o4).mono ?_
    rintro e w1 ⟨rfl, rfl⟩
    clear o1 o2 o3 o4
    have hlog := fun w => Log_calls (q % 2 ^ 52) y (by omega) hy w
    clear hy
    generalize hx : Fl.half + q % 2 ^ 52 = x at hh hlog
    generalize hE : q / 2 ^ 52 = E at ha
    have hE' : E ≤ 2047 := by omega
    clear hx hE hr
    go_wp2_with fail
    refine (hlog _).mono ?_
    rintro e w1 ⟨rfl, rfl⟩
    clear hlog
    go_wp2
    go_ret
    exact ⟨rfl, rfl⟩

theorem Log2_calls (q b : Nat) (v : Rat) (hv : Fl.Is q v) (hlo : Fl.lo ≤ v) (hhi : v ≤ Fl.hi) (hq : q < 2047 * 2 ^ 52) (h : Fl.log2W q = some b) (w : World) :
    Calls Try.prog 16 #[.float .f64 q] w fun e w' => e = .returned (.float .f64 b) ∧ w = w' := by
  have hl := fun w => log2_calls q b v hv hlo hhi hq h w
  clear h hq hv hlo hhi
  go_enter Try.func16, Try.ntmps16
  go_wp2_with fail
  refine (hl _).mono ?_
  rintro e w1 ⟨rfl, rfl⟩
  go_wp2
  go_ret
  exact ⟨rfl, rfl⟩

theorem Log2_zero (w : World) : Calls Try.prog 16 #[.float .f64 0] w fun e w' => e = .returned (.float .f64 Fl.negInf) ∧ w = w' := by
  have h0 : (FloatKind.f64.format.order 0 4602678819172646912 == some .eq) = false := by decide +kernel
  have hm := fun w => run_float_arith (P := Try.prog) w .mul 36 .f64 Fl.negInf 4609176140021203710 Fl.negInf (by decide +kernel)
  have ha := fun w => run_float_arith (P := Try.prog) w .add 36 .f64 Fl.negInf (floatOfInt .f64 0) Fl.negInf (by decide +kernel)
  go_enter Try.func16, Try.ntmps16
  go_wp2_with (first | (go_at_call 22; refine (Frexp_zero _).mono ?_; rintro e w1 ⟨rfl, rfl⟩) | (go_at_call 23; refine (Log_zero _).mono ?_; rintro e w1 ⟨rfl, rfl⟩) | go_in)
  go_ret
  exact ⟨rfl, rfl⟩

end Go.Proofs.Qxb6625468a
