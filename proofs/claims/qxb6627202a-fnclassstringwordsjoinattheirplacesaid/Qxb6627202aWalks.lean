import Derived.Test.Qxb6627202aRows
import Derived.WalkKit
import Derived.ProofKit
import Derived.OpenShut
import Derived.ShutString
namespace Go.Proofs.Qxb6627202a
open Go.ChangeShapes Go.WideShapes Go.ChangeAt Go.RowKit
set_option linter.unusedVariables false
/-- The code of a class that holds the words Compensatable (k1), Cancelable (k4), Retriable (k2). -/
def codeL (k1 k4 k2 : Bool) : List UInt8 := (if k1 then [99, 112] else [112]) ++ (if k4 then [99, 99] else []) ++ (if k2 then [114] else [])
def codeB (k1 k4 k2 : Bool) : ByteArray := ⟨(codeL k1 k4 k2).toArray⟩

theorem string_calls (c : Int) (k1 k4 k2 : Bool) (w : World) (h1 : (bits .and .u8 c 1 != 0) = k1) (h4 : (bits .and .u8 c 4 != 0) = k4) (h2 : (bits .and .u8 c 2 != 0) = k2) :
    Calls Try.prog 5 #[.int .u8 c] w fun e w' => e = .returned (.string (codeB k1 k4 k2)) ∧ w = w' := by
  cases k1 <;> cases k4 <;> cases k2
  all_goals
    go_enter Try.func5, Try.ntmps5
    go_wp2
    go_ret
    exact ⟨rfl, rfl⟩

/-! ### The plain facts on bits, by the kernel over all 256 values -/
def has (c m : Int) : Bool := bits .and .u8 c m != 0
def tableB (c : Int) : Bool :=
  (has (bits .or .u8 c 2) 1 == has c 1) && (has (bits .or .u8 c 2) 4 == has c 4) && (has (bits .or .u8 c 2) 2 == true) &&
  (has (bits .andNot .u8 c 2) 1 == has c 1) && (has (bits .andNot .u8 c 2) 4 == has c 4) && (has (bits .andNot .u8 c 2) 2 == false) &&
  (has (bits .or .u8 c 1) 1 == true) && (has (bits .or .u8 c 1) 4 == has c 4) && (has (bits .or .u8 c 1) 2 == has c 2) &&
  (has (bits .andNot .u8 c 1) 1 == false) && (has (bits .andNot .u8 c 1) 4 == has c 4) && (has (bits .andNot .u8 c 1) 2 == has c 2) &&
  (has (bits .andNot .u8 (bits .or .u8 c 4) 2) 1 == has c 1) && (has (bits .andNot .u8 (bits .or .u8 c 4) 2) 4 == true) && (has (bits .andNot .u8 (bits .or .u8 c 4) 2) 2 == false) &&
  (has (bits .andNot .u8 (bits .andNot .u8 c 4) 2) 1 == has c 1) && (has (bits .andNot .u8 (bits .andNot .u8 c 4) 2) 4 == false) && (has (bits .andNot .u8 (bits .andNot .u8 c 4) 2) 2 == false)
theorem table_all : (List.range 256).all (fun n => tableB (n : Int)) = true := by decide +kernel
theorem u8_bounds {c : Int} (h : (Lit.int .u8 c).wf = true) : 0 ≤ c ∧ c ≤ 255 := by
  simp [Lit.wf, IntKind.min, IntKind.max, IntKind.signed, IntKind.bits] at h
  omega
theorem table_at {c : Int} (h : (Lit.int .u8 c).wf = true) : tableB c = true := by
  obtain ⟨h0, h1⟩ := u8_bounds h
  obtain ⟨n, rfl⟩ := Int.eq_ofNat_of_zero_le h0
  exact List.all_eq_true.1 table_all n (List.mem_range.2 (by omega))

/-! ### The plain facts on codes -/
theorem code_r (k1 k4 : Bool) : ((codeB k1 k4 true).toList == (codeB k1 k4 false ++ ⟨#[114]⟩).toList) = true := by cases k1 <;> cases k4 <;> decide +kernel
theorem code_c (k4 k2 : Bool) : ((codeB true k4 k2).toList == ((⟨#[99]⟩ : ByteArray) ++ codeB false k4 k2).toList) = true := by cases k4 <;> cases k2 <;> decide +kernel
theorem code_cc (k1 : Bool) : ((codeB k1 true false).toList == (codeB k1 false false ++ ⟨#[99, 99]⟩).toList) = true := by cases k1 <;> decide +kernel
theorem code_size (k1 k4 k2 : Bool) : (codeB k1 k4 k2).size ≤ 5 := by cases k1 <;> cases k4 <;> cases k2 <;> decide +kernel

set_option maxHeartbeats 1000000 in
theorem join_walk (a0 : Int) (w0 : (Lit.int .u8 a0).wf = true) (w : World) :
    Calls Try.prog 3 #[.int .u8 a0] w fun e w' => e = .returned (.bool true) ∧ Grown w w' := by
  have T := table_at w0
  unfold tableB has at T
  generalize hk1 : (bits .and .u8 a0 1 != 0) = k1 at T
  generalize hk4 : (bits .and .u8 a0 4 != 0) = k4 at T
  generalize hk2 : (bits .and .u8 a0 2 != 0) = k2 at T
  simp only [Bool.and_eq_true, beq_iff_eq] at T
  obtain ⟨⟨⟨⟨⟨⟨⟨⟨⟨⟨⟨⟨⟨⟨⟨⟨⟨t1, t2⟩, t3⟩, t4⟩, t5⟩, t6⟩, t7⟩, t8⟩, t9⟩, t10⟩, t11⟩, t12⟩, t13⟩, t14⟩, t15⟩, t16⟩, t17⟩, t18⟩ := T
  have e1 := code_r k1 k4
  have e2 := code_c k4 k2
  have e3 := code_cc k1
  have z1 := code_size k1 k4 false
  have z2 := code_size false k4 k2
  have z3 := code_size k1 false false
  go_enter Try.func3, Try.ntmps3
  go_wp2_with fail
  refine (string_calls _ _ _ _ _ t1 t2 t3).mono ?_
  rintro e w1 ⟨rfl, rfl⟩
  go_wp2_with fail
  refine (string_calls _ _ _ _ _ t4 t5 t6).mono ?_
  rintro e w1 ⟨rfl, rfl⟩
  go_wp2_with fail
  refine (string_calls _ _ _ _ _ t7 t8 t9).mono ?_
  rintro e w1 ⟨rfl, rfl⟩
  go_wp2_with fail
  refine (string_calls _ _ _ _ _ t10 t11 t12).mono ?_
  rintro e w1 ⟨rfl, rfl⟩
  go_wp2_with fail
  refine (string_calls _ _ _ _ _ t13 t14 t15).mono ?_
  rintro e w1 ⟨rfl, rfl⟩
  go_wp2_with fail
  refine (string_calls _ _ _ _ _ t16 t17 t18).mono ?_
  rintro e w1 ⟨rfl, rfl⟩
  go_wp2_with fail
  refine (string_calls _ _ _ _ _ hk1 hk4 hk2).mono ?_
  rintro e w1 ⟨rfl, rfl⟩
  cases k2
  · go_wp2
    go_ret
    exact ⟨rfl, Grown.refl _⟩
  · go_wp2
    go_ret
    exact ⟨rfl, Grown.refl _⟩

/-! ### The second law -/
def sizeOf3 (k1 k4 k2 : Bool) : Int := 1 + (if k1 then 1 else 0) + (if k4 then 2 else 0) + (if k2 then 1 else 0)
def table2B (c d : Int) : Bool := (bits .and .u8 c 7 == bits .and .u8 d 7) == (has c 1 == has d 1 && has c 4 == has d 4 && has c 2 == has d 2)
theorem table2_all : (List.range 256).all (fun n => (List.range 256).all (fun m => table2B (n : Int) (m : Int))) = true := by decide +kernel
theorem table2_at {c d : Int} (h : (Lit.int .u8 c).wf = true) (h' : (Lit.int .u8 d).wf = true) : table2B c d = true := by
  obtain ⟨h0, h1⟩ := u8_bounds h
  obtain ⟨n, rfl⟩ := Int.eq_ofNat_of_zero_le h0
  obtain ⟨h0', h1'⟩ := u8_bounds h'
  obtain ⟨m, rfl⟩ := Int.eq_ofNat_of_zero_le h0'
  exact List.all_eq_true.1 (List.all_eq_true.1 table2_all n (List.mem_range.2 (by omega))) m (List.mem_range.2 (by omega))
theorem code_eq (k1 k4 k2 j1 j4 j2 : Bool) : ((codeB k1 k4 k2).toList == (codeB j1 j4 j2).toList) = (k1 == j1 && k4 == j4 && k2 == j2) := by
  cases k1 <;> cases k4 <;> cases k2 <;> cases j1 <;> cases j4 <;> cases j2 <;> decide +kernel
theorem code_len (k1 k4 k2 : Bool) : (codeB k1 k4 k2).size = (sizeOf3 k1 k4 k2).toNat := by cases k1 <;> cases k4 <;> cases k2 <;> decide +kernel

set_option maxHeartbeats 1000000 in
theorem sized_walk (a0 a1 : Int) (w0 : (Lit.int .u8 a0).wf = true) (w1 : (Lit.int .u8 a1).wf = true) (w : World) :
    Calls Try.prog 4 #[.int .u8 a0, .int .u8 a1] w fun e w' => e = .returned (.bool true) ∧ Grown w w' := by
  have T := table2_at w0 w1
  unfold table2B has at T
  generalize hk1 : (bits .and .u8 a0 1 != 0) = k1 at T
  generalize hk4 : (bits .and .u8 a0 4 != 0) = k4 at T
  generalize hk2 : (bits .and .u8 a0 2 != 0) = k2 at T
  generalize hj1 : (bits .and .u8 a1 1 != 0) = j1 at T
  generalize hj4 : (bits .and .u8 a1 4 != 0) = j4 at T
  generalize hj2 : (bits .and .u8 a1 2 != 0) = j2 at T
  simp only [beq_iff_eq] at T
  have E := code_eq k1 k4 k2 j1 j4 j2
  generalize hx : (k1 == j1 && k4 == j4 && k2 == j2) = x at T E
  clear hx
  go_enter Try.func4, Try.ntmps4
  go_wp2_with fail
  refine (string_calls _ _ _ _ _ hk1 hk4 hk2).mono ?_
  rintro e w1 ⟨rfl, rfl⟩
  go_wp2_with fail
  refine (string_calls _ _ _ _ _ hj1 hj4 hj2).mono ?_
  rintro e w1 ⟨rfl, rfl⟩
  have Z := code_len k1 k4 k2
  cases k1 <;> cases k4 <;> cases k2 <;> cases x
  all_goals
    simp only [sizeOf3] at Z
    go_wp2
    go_ret
    exact ⟨rfl, Grown.refl _⟩
end Go.Proofs.Qxb6627202a
