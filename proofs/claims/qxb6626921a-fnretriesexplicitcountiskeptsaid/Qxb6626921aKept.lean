import Derived.Test.Qxb6626921aBead
import Derived.Lib.SliceRun
namespace Go.Proofs.Qxb6626921a
open Go.ChangeShapes Go.WideShapes Go.ChangeAt Go.RowKit
set_option linter.unusedVariables false
set_option linter.unusedSimpArgs false

theorem cell_old {w : World} {a : Addr} {v : Value} (o : Obj) (h : w.cell? a = some v) : (w.alloc o).cell? a = some v := Lib.cell?_alloc_some o h

set_option maxHeartbeats 2000000 in
set_option maxRecDepth 100000 in
theorem kept_none (s0 s1 s2 s3 s4 : ByteArray) (a : Option Addr) (n c : Nat) (s6 : ByteArray) (s8 s9 s10 : ByteArray) (lim : Int) (w : World)
    (h0 : s0.size ≤ maxLen) (h1 : s1.size ≤ maxLen) (h2 : s2.size ≤ maxLen) (h3 : s3.size ≤ maxLen) (h4 : s4.size ≤ maxLen) (h6 : s6.size ≤ maxLen) (h8 : s8.size ≤ maxLen) (h9 : s9.size ≤ maxLen) (h10 : s10.size ≤ maxLen)
    (hg : Grid w a n) (hn : n ≤ maxLen) (hemp : s6.toList.isEmpty = true) :
    Calls Try.prog 3 #[.string s0, .string s1, .string s2, .string s3, .string s4, .slice a n c, .string s6, .pointer none, .string s8, .string s9, .string s10, .int .i64 lim] w fun e w' => e = .returned (.bool true) ∧ Below w.heap.size w w' := by
  go_enter Try.func3, Try.ntmps3
  go_wp2_with fail
  refine (bytes5_calls s0 s1 s2 s3 s4 a n c s6 none s8 s9 s10 lim _ h0 h1 h2 h3 h4 h6 h8 h9 h10 hg).mono ?_
  rintro e w1 ⟨⟨b, rfl⟩, hw⟩
  have hw' := hw.symm
  subst hw'
  clear hw
  cases b
  · go_wp2
    go_ret
    exact ⟨rfl, Below.refl _ _⟩
  go_wp2_with fail
  refine (big6_calls s0 s1 s2 s3 s4 a n c s6 s8 s9 s10 _ h0 h1 h2 h3 h4 h6 h8 h9 h10 hg hn).mono ?_
  rintro e w1 ⟨⟨b, rfl, hb⟩, hw⟩
  have hw' := hw.symm
  subst hw'
  clear hw
  cases b
  rotate_left
  · go_wp2
    go_ret
    exact ⟨rfl, Below.refl _ _⟩
  have hsz := hb rfl
  clear hb hg h0 h1 h2 h3 h4 h6 h8 h9 h10 hn
  go_wp2_with fail
  refine (newBead_calls s0 s1 s2 s3 s4 a n c s6 none s8 s9 s10 lim _).mono ?_
  rintro e w1 ⟨rfl, C, rfl⟩
  go_wp2_with fail
  refine (retries_none _ _ _ _ _ _ _ s6 _ _ _ _ _ hemp).mono ?_
  rintro e w1 ⟨rfl, C1, rfl⟩
  go_wp2_with fail
  refine (retries_some _ _ _ _ _ _ _ _ _ _ _ _ _ _ _ 0 ?_ ?_).mono ?_
  · repeat (first | (simp; done) | (simp [World.cell?_alloc_at]; done) | refine cell_old _ ?_)
  · first | (simp; done) | (simp; omega)
  rintro e w1 ⟨rfl, C2, rfl⟩
  go_wp2_with fail
  refine (retries_some _ _ _ _ _ _ _ _ _ _ _ _ _ _ _ 0 ?_ ?_).mono ?_
  · repeat (first | (simp; done) | (simp [World.cell?_alloc_at]; done) | refine cell_old _ ?_)
  · first | (simp; done) | (simp; omega)
  rintro e w1 ⟨rfl, C3, rfl⟩
  go_wp2_with fail
  refine (retries_some _ _ _ _ _ _ _ _ _ _ _ _ _ _ _ 0 ?_ ?_).mono ?_
  · repeat (first | (simp; done) | (simp [World.cell?_alloc_at]; done) | refine cell_old _ ?_)
  · first | (simp; done) | (simp; omega)
  rintro e w1 ⟨rfl, C4, rfl⟩
  go_wp2
  go_ret
  exact ⟨rfl, by repeat (first | exact Below.refl _ _ | refine Below.alloc ?_ (by first | exact Nat.le_refl _ | (simp; done) | (simp; omega)) _)⟩

set_option maxHeartbeats 2000000 in
set_option maxRecDepth 100000 in
theorem kept_named (s0 s1 s2 s3 s4 : ByteArray) (a : Option Addr) (n c : Nat) (s6 : ByteArray) (s8 s9 s10 : ByteArray) (lim : Int) (w : World)
    (h0 : s0.size ≤ maxLen) (h1 : s1.size ≤ maxLen) (h2 : s2.size ≤ maxLen) (h3 : s3.size ≤ maxLen) (h4 : s4.size ≤ maxLen) (h6 : s6.size ≤ maxLen) (h8 : s8.size ≤ maxLen) (h9 : s9.size ≤ maxLen) (h10 : s10.size ≤ maxLen)
    (hg : Grid w a n) (hn : n ≤ maxLen) (hemp : s6.toList.isEmpty = false) :
    Calls Try.prog 3 #[.string s0, .string s1, .string s2, .string s3, .string s4, .slice a n c, .string s6, .pointer none, .string s8, .string s9, .string s10, .int .i64 lim] w fun e w' => e = .returned (.bool true) ∧ Below w.heap.size w w' := by
  go_enter Try.func3, Try.ntmps3
  go_wp2_with fail
  refine (bytes5_calls s0 s1 s2 s3 s4 a n c s6 none s8 s9 s10 lim _ h0 h1 h2 h3 h4 h6 h8 h9 h10 hg).mono ?_
  rintro e w1 ⟨⟨b, rfl⟩, hw⟩
  have hw' := hw.symm
  subst hw'
  clear hw
  cases b
  · go_wp2
    go_ret
    exact ⟨rfl, Below.refl _ _⟩
  go_wp2_with fail
  refine (big6_calls s0 s1 s2 s3 s4 a n c s6 s8 s9 s10 _ h0 h1 h2 h3 h4 h6 h8 h9 h10 hg hn).mono ?_
  rintro e w1 ⟨⟨b, rfl, hb⟩, hw⟩
  have hw' := hw.symm
  subst hw'
  clear hw
  cases b
  rotate_left
  · go_wp2
    go_ret
    exact ⟨rfl, Below.refl _ _⟩
  have hsz := hb rfl
  clear hb hg h0 h1 h2 h3 h4 h6 h8 h9 h10 hn
  go_wp2_with fail
  refine (newBead_calls s0 s1 s2 s3 s4 a n c s6 none s8 s9 s10 lim _).mono ?_
  rintro e w1 ⟨rfl, C, rfl⟩
  go_wp2_with fail
  refine (retries_named _ _ _ _ _ _ _ s6 _ _ _ _ _ hemp).mono ?_
  rintro e w1 ⟨rfl, C1, rfl⟩
  go_wp2_with fail
  refine (retries_some _ _ _ _ _ _ _ _ _ _ _ _ _ _ _ 2 ?_ ?_).mono ?_
  · repeat (first | (simp; done) | (simp [World.cell?_alloc_at]; done) | refine cell_old _ ?_)
  · first | (simp; done) | (simp; omega)
  rintro e w1 ⟨rfl, C2, rfl⟩
  go_wp2_with fail
  refine (retries_some _ _ _ _ _ _ _ _ _ _ _ _ _ _ _ 2 ?_ ?_).mono ?_
  · repeat (first | (simp; done) | (simp [World.cell?_alloc_at]; done) | refine cell_old _ ?_)
  · first | (simp; done) | (simp; omega)
  rintro e w1 ⟨rfl, C3, rfl⟩
  go_wp2_with fail
  refine (retries_some _ _ _ _ _ _ _ _ _ _ _ _ _ _ _ 2 ?_ ?_).mono ?_
  · repeat (first | (simp; done) | (simp [World.cell?_alloc_at]; done) | refine cell_old _ ?_)
  · first | (simp; done) | (simp; omega)
  rintro e w1 ⟨rfl, C4, rfl⟩
  go_wp2
  go_ret
  exact ⟨rfl, by repeat (first | exact Below.refl _ _ | refine Below.alloc ?_ (by first | exact Nat.le_refl _ | (simp; done) | (simp; omega)) _)⟩

set_option maxHeartbeats 2000000 in
set_option maxRecDepth 100000 in
theorem kept_some (s0 s1 s2 s3 s4 : ByteArray) (a : Option Addr) (n c : Nat) (s6 : ByteArray) (pb po : Nat) (s8 s9 s10 : ByteArray) (lim : Int) (w : World)
    (h0 : s0.size ≤ maxLen) (h1 : s1.size ≤ maxLen) (h2 : s2.size ≤ maxLen) (h3 : s3.size ≤ maxLen) (h4 : s4.size ≤ maxLen) (h6 : s6.size ≤ maxLen) (h8 : s8.size ≤ maxLen) (h9 : s9.size ≤ maxLen) (h10 : s10.size ≤ maxLen)
    (hg : Grid w a n) (hn : n ≤ maxLen) (r : Int) (hp : w.cell? ⟨pb, po, none⟩ = some (.int .i64 r)) :
    Calls Try.prog 3 #[.string s0, .string s1, .string s2, .string s3, .string s4, .slice a n c, .string s6, .pointer (some ⟨pb, po, none⟩), .string s8, .string s9, .string s10, .int .i64 lim] w fun e w' => e = .returned (.bool true) ∧ Below w.heap.size w w' := by
  go_enter Try.func3, Try.ntmps3
  go_wp2_with fail
  refine (bytes5_calls s0 s1 s2 s3 s4 a n c s6 (some ⟨pb, po, none⟩) s8 s9 s10 lim _ h0 h1 h2 h3 h4 h6 h8 h9 h10 hg).mono ?_
  rintro e w1 ⟨⟨b, rfl⟩, hw⟩
  have hw' := hw.symm
  subst hw'
  clear hw
  cases b
  · go_wp2
    go_ret
    exact ⟨rfl, Below.refl _ _⟩
  go_wp2_with fail
  refine (big6_calls s0 s1 s2 s3 s4 a n c s6 s8 s9 s10 _ h0 h1 h2 h3 h4 h6 h8 h9 h10 hg hn).mono ?_
  rintro e w1 ⟨⟨b, rfl, hb⟩, hw⟩
  have hw' := hw.symm
  subst hw'
  clear hw
  cases b
  rotate_left
  · go_wp2
    go_ret
    exact ⟨rfl, Below.refl _ _⟩
  have hsz := hb rfl
  clear hb hg h0 h1 h2 h3 h4 h6 h8 h9 h10 hn
  go_wp2_with fail
  refine (newBead_calls s0 s1 s2 s3 s4 a n c s6 (some ⟨w.heap.size, 0, none⟩) s8 s9 s10 lim _).mono ?_
  rintro e w1 ⟨rfl, C, rfl⟩
  go_wp2_with fail
  refine (retries_some _ _ _ _ _ _ _ _ _ _ _ _ _ _ _ r ?_ ?_).mono ?_
  · repeat (first | (simp; done) | (simp [World.cell?_alloc_at]; done) | refine cell_old _ ?_)
  · first | (simp; done) | (simp; omega)
  rintro e w1 ⟨rfl, C1, rfl⟩
  go_wp2_with fail
  refine (retries_some _ _ _ _ _ _ _ _ _ _ _ _ _ _ _ r ?_ ?_).mono ?_
  · repeat (first | (simp; done) | (simp [World.cell?_alloc_at]; done) | refine cell_old _ ?_)
  · first | (simp; done) | (simp; omega)
  rintro e w1 ⟨rfl, C2, rfl⟩
  go_wp2_with fail
  refine (retries_some _ _ _ _ _ _ _ _ _ _ _ _ _ _ _ r ?_ ?_).mono ?_
  · repeat (first | (simp; done) | (simp [World.cell?_alloc_at]; done) | refine cell_old _ ?_)
  · first | (simp; done) | (simp; omega)
  rintro e w1 ⟨rfl, C3, rfl⟩
  go_wp2_with fail
  refine (retries_some _ _ _ _ _ _ _ _ _ _ _ _ _ _ _ r ?_ ?_).mono ?_
  · repeat (first | (simp; done) | (simp [World.cell?_alloc_at]; done) | refine cell_old _ ?_)
  · first | (simp; done) | (simp; omega)
  rintro e w1 ⟨rfl, C4, rfl⟩
  go_wp2
  go_ret
  exact ⟨rfl, by repeat (first | exact Below.refl _ _ | refine Below.alloc ?_ (by first | exact Nat.le_refl _ | (simp; done) | (simp; omega)) _)⟩
end Go.Proofs.Qxb6626921a
