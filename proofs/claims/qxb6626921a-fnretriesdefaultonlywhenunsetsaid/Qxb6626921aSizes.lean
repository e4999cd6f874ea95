import Derived.Test.Qxb6626921aRows
import Derived.WalkKit
import Derived.ProofKit
import Derived.OpenShut
import Derived.ShutString
import Derived.ChangeOld
import Derived.Below
import Derived.Outline
namespace Go.Proofs.Qxb6626921a
open Go.ChangeShapes Go.WideShapes Go.ChangeAt Go.RowKit
set_option linter.unusedVariables false

/-- A slice of strings: empty, or its strings lie in a row. -/
def Strs (w : World) (a : Option Addr) (n : Nat) : Prop :=
  n = 0 ∨ ∃ b o, a = some ⟨b, o, none⟩ ∧ n ≤ maxLen ∧ ∀ i, i < n → ∃ s : ByteArray, w.cell? ⟨b, o + i, none⟩ = some (.string s) ∧ s.size ≤ maxLen
/-- A slice of slices of strings. -/
def Grid (w : World) (a : Option Addr) (n : Nat) : Prop :=
  n = 0 ∨ ∃ b o, a = some ⟨b, o, none⟩ ∧ n ≤ maxLen ∧ ∀ i, i < n → ∃ a' n' c', w.cell? ⟨b, o + i, none⟩ = some (.slice a' n' c') ∧ Strs w a' n'
/-- It answers a bool. -/
def Answers (e : Ending) : Prop := ∃ b, e = .returned (.bool b)
theorem Answers.mk (b : Bool) : Answers (.returned (.bool b)) := ⟨b, rfl⟩

set_option maxHeartbeats 1000000 in
set_option maxRecDepth 100000 in
theorem bytes5_calls (s0 s1 s2 s3 s4 : ByteArray) (a : Option Addr) (n c : Nat) (s6 : ByteArray) (p : Option Addr) (s8 s9 s10 : ByteArray) (lim : Int) (w : World)
    (h0 : s0.size ≤ maxLen) (h1 : s1.size ≤ maxLen) (h2 : s2.size ≤ maxLen) (h3 : s3.size ≤ maxLen) (h4 : s4.size ≤ maxLen) (h6 : s6.size ≤ maxLen) (h8 : s8.size ≤ maxLen) (h9 : s9.size ≤ maxLen) (h10 : s10.size ≤ maxLen)
    (hg : Grid w a n) :
    Calls Try.prog 5 #[.string s0, .string s1, .string s2, .string s3, .string s4, .slice a n c, .string s6, .pointer p, .string s8, .string s9, .string s10, .int .i64 lim] w fun e w' => Answers e ∧ w' = w := by
  unfold maxLen at h0 h1 h2 h3 h4 h6 h8 h9 h10
  go_enter Try.func5, Try.ntmps5
  go_wp2
  all_goals (first | (go_ret; exact ⟨Answers.mk _, rfl⟩) | skip)
  go_loop [25, 26] (fun z i => ∃ (k : Nat) (m : Int), k ≤ n ∧ 0 ≤ m ∧ m ≤ 1048576 ∧ i = .int .i64 k ∧ z = .int .i64 m) (fun _ i => n - (intOf i).toNat)
  case atStart => exact ⟨0, _, Nat.zero_le _, by omega, by omega, rfl, rfl⟩
  case round =>
    obtain ⟨k, m, hk, hm0, hm1, rfl, rfl⟩ := hrel
    by_cases hlt : k < n
    · rcases hg with hg | ⟨b, o, rfl, hn, hrow⟩
      · omega
      unfold maxLen at hn
      obtain ⟨a', n', c', hc, hs⟩ := hrow k hlt
      clear hrow
      have hn' : n' ≤ 2 ^ 63 - 1 := by
        rcases hs with hs | ⟨_, _, _, hs, _⟩
        · omega
        · exact hs
      go_wp2
      all_goals (first | (go_ret; exact ⟨Answers.mk _, rfl⟩) | skip)
      go_loop [25, 27] (fun z i => ∃ (j : Nat) (m : Int), j ≤ n' ∧ 0 ≤ m ∧ m ≤ 1048576 ∧ i = .int .i64 j ∧ z = .int .i64 m) (fun _ i => n' - (intOf i).toNat)
      case atStart => exact ⟨0, _, Nat.zero_le _, by omega, by omega, rfl, rfl⟩
      case round =>
        obtain ⟨j, m, hj, hm0, hm1, rfl, rfl⟩ := hrel
        by_cases hjt : j < n'
        · rcases hs with hs | ⟨b', o', rfl, _, hrow⟩
          · omega
          obtain ⟨s, hc', hs⟩ := hrow j hjt
          unfold maxLen at hs
          clear hrow
          go_wp2
          all_goals (first | (go_ret; exact ⟨Answers.mk _, rfl⟩) | skip)
          go_round
          case rel => exact ⟨j + 1, _, by omega, by omega, by omega, by go_num, rfl⟩
          case measure => simp [intOf]; omega
        · go_wp2
          go_round
          case rel => exact ⟨k + 1, _, by omega, hm0, hm1, by go_num, rfl⟩
          case measure => simp [intOf]; omega
    · go_wp2
      all_goals (first | (go_ret; exact ⟨Answers.mk _, rfl⟩) | skip)
set_option maxHeartbeats 1000000 in
set_option maxRecDepth 100000 in
theorem bytes9_calls (s0 s1 s2 s3 s4 : ByteArray) (a : Option Addr) (n c : Nat) (s6 : ByteArray) (p : Option Addr) (s8 s9 s10 : ByteArray) (lim : Int) (w : World)
    (h0 : s0.size ≤ maxLen) (h1 : s1.size ≤ maxLen) (h2 : s2.size ≤ maxLen) (h3 : s3.size ≤ maxLen) (h4 : s4.size ≤ maxLen) (h6 : s6.size ≤ maxLen) (h8 : s8.size ≤ maxLen) (h9 : s9.size ≤ maxLen) (h10 : s10.size ≤ maxLen)
    (hg : Grid w a n) :
    Calls Try.prog 9 #[.string s0, .string s1, .string s2, .string s3, .string s4, .slice a n c, .string s6, .pointer p, .string s8, .string s9, .string s10, .int .i64 lim] w fun e w' => Answers e ∧ w' = w := by
  unfold maxLen at h0 h1 h2 h3 h4 h6 h8 h9 h10
  go_enter Try.func9, Try.ntmps9
  go_wp2
  all_goals (first | (go_ret; exact ⟨Answers.mk _, rfl⟩) | skip)
  go_loop [25, 26] (fun z i => ∃ (k : Nat) (m : Int), k ≤ n ∧ 0 ≤ m ∧ m ≤ 1048576 ∧ i = .int .i64 k ∧ z = .int .i64 m) (fun _ i => n - (intOf i).toNat)
  case atStart => exact ⟨0, _, Nat.zero_le _, by omega, by omega, rfl, rfl⟩
  case round =>
    obtain ⟨k, m, hk, hm0, hm1, rfl, rfl⟩ := hrel
    by_cases hlt : k < n
    · rcases hg with hg | ⟨b, o, rfl, hn, hrow⟩
      · omega
      unfold maxLen at hn
      obtain ⟨a', n', c', hc, hs⟩ := hrow k hlt
      clear hrow
      have hn' : n' ≤ 2 ^ 63 - 1 := by
        rcases hs with hs | ⟨_, _, _, hs, _⟩
        · omega
        · exact hs
      go_wp2
      all_goals (first | (go_ret; exact ⟨Answers.mk _, rfl⟩) | skip)
      go_loop [25, 27] (fun z i => ∃ (j : Nat) (m : Int), j ≤ n' ∧ 0 ≤ m ∧ m ≤ 1048576 ∧ i = .int .i64 j ∧ z = .int .i64 m) (fun _ i => n' - (intOf i).toNat)
      case atStart => exact ⟨0, _, Nat.zero_le _, by omega, by omega, rfl, rfl⟩
      case round =>
        obtain ⟨j, m, hj, hm0, hm1, rfl, rfl⟩ := hrel
        by_cases hjt : j < n'
        · rcases hs with hs | ⟨b', o', rfl, _, hrow⟩
          · omega
          obtain ⟨s, hc', hs⟩ := hrow j hjt
          unfold maxLen at hs
          clear hrow
          go_wp2
          all_goals (first | (go_ret; exact ⟨Answers.mk _, rfl⟩) | skip)
          go_round
          case rel => exact ⟨j + 1, _, by omega, by omega, by omega, by go_num, rfl⟩
          case measure => simp [intOf]; omega
        · go_wp2
          go_round
          case rel => exact ⟨k + 1, _, by omega, hm0, hm1, by go_num, rfl⟩
          case measure => simp [intOf]; omega
    · go_wp2
      all_goals (first | (go_ret; exact ⟨Answers.mk _, rfl⟩) | skip)
end Go.Proofs.Qxb6626921a
