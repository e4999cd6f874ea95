import Derived.Test.Qxb6626921aBig
namespace Go.Proofs.Qxb6626921a
open Go.ChangeShapes Go.WideShapes Go.ChangeAt Go.RowKit
set_option linter.unusedVariables false

set_option maxHeartbeats 1000000 in
set_option maxRecDepth 100000 in
theorem newBead_calls (s0 s1 s2 s3 s4 : ByteArray) (a : Option Addr) (n c : Nat) (s6 : ByteArray) (p : Option Addr) (s8 s9 s10 : ByteArray) (lim : Int) (w : World) :
    Calls Try.prog 7 #[.string s0, .string s1, .string s2, .string s3, .string s4, .slice a n c, .string s6, .pointer p, .string s8, .string s9, .string s10, .int .i64 lim] w fun e w' =>
      e = .returned (.agg #[.string s0, .string s1, .pointer none, .string s2, .string s3, .string s4, .slice a n c, .string s6, .pointer p, .string s8, .string s9, .string s10, .int .i64 lim]) ∧ ∃ C, w' = w.alloc (.cells C 29) := by
  go_enter Try.func7, Try.ntmps7
  go_wp2
  exact bodyPost_ret (v := .agg #[.string s0, .string s1, .pointer none, .string s2, .string s3, .string s4, .slice a n c, .string s6, .pointer p, .string s8, .string s9, .string s10, .int .i64 lim]) (by simp [results, Try.results7, go_sem]) rfl ⟨rfl, _, rfl⟩

set_option maxHeartbeats 1000000 in
set_option maxRecDepth 100000 in
theorem retries_some (v0 v1 v2 v3 v4 v5 v6 v7 : Value) (b o : Nat) (v9 v10 v11 v12 : Value) (w : World) (r : Int) (hc : w.cell? ⟨b, o, none⟩ = some (.int .i64 r)) (hb : b < w.heap.size) :
    Calls Try.prog 8 #[.agg #[v0, v1, v2, v3, v4, v5, v6, v7, .pointer (some ⟨b, o, none⟩), v9, v10, v11, v12]] w fun e w' => e = .returned (.int .i64 r) ∧ ∃ C, w' = w.alloc (.cells C 29) := by
  go_enter Try.func8, Try.ntmps8
  go_wp2
  go_ret
  exact ⟨rfl, _, rfl⟩

set_option maxHeartbeats 1000000 in
set_option maxRecDepth 100000 in
theorem retries_none (v0 v1 v2 v3 v4 v5 v6 : Value) (s : ByteArray) (v9 v10 v11 v12 : Value) (w : World) (hs : s.toList.isEmpty = true) :
    Calls Try.prog 8 #[.agg #[v0, v1, v2, v3, v4, v5, v6, .string s, .pointer none, v9, v10, v11, v12]] w fun e w' => e = .returned (.int .i64 0) ∧ ∃ C, w' = w.alloc (.cells C 29) := by
  go_enter Try.func8, Try.ntmps8
  go_wp2
  go_ret
  exact ⟨rfl, _, rfl⟩

set_option maxHeartbeats 1000000 in
set_option maxRecDepth 100000 in
theorem retries_named (v0 v1 v2 v3 v4 v5 v6 : Value) (s : ByteArray) (v9 v10 v11 v12 : Value) (w : World) (hs : s.toList.isEmpty = false) :
    Calls Try.prog 8 #[.agg #[v0, v1, v2, v3, v4, v5, v6, .string s, .pointer none, v9, v10, v11, v12]] w fun e w' => e = .returned (.int .i64 2) ∧ ∃ C, w' = w.alloc (.cells C 29) := by
  go_enter Try.func8, Try.ntmps8
  go_wp2
  go_ret
  exact ⟨rfl, _, rfl⟩
end Go.Proofs.Qxb6626921a
