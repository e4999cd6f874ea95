import Derived.Test.Qxb6626921aSizes
namespace Go.Proofs.Qxb6626921a
open Go.ChangeShapes Go.WideShapes Go.ChangeAt Go.RowKit
set_option linter.unusedVariables false

/-- It answers a bool; if that is false, 's' is short. -/
def AnswersShort (s : ByteArray) (e : Ending) : Prop := ∃ b, e = .returned (.bool b) ∧ (b = false → s.size ≤ 1048576)
theorem AnswersShort.yes (s : ByteArray) : AnswersShort s (.returned (.bool true)) := ⟨true, rfl, fun h => by cases h⟩
theorem AnswersShort.no (s : ByteArray) (h : (s.size : Int) ≤ 1048576) : AnswersShort s (.returned (.bool false)) := ⟨false, rfl, fun _ => by omega⟩

set_option maxHeartbeats 1000000 in
set_option maxRecDepth 100000 in
theorem big6_calls (s0 s1 s2 s3 s4 : ByteArray) (a : Option Addr) (n c : Nat) (s6 : ByteArray) (s8 s9 s10 : ByteArray) (w : World)
    (h0 : s0.size ≤ maxLen) (h1 : s1.size ≤ maxLen) (h2 : s2.size ≤ maxLen) (h3 : s3.size ≤ maxLen) (h4 : s4.size ≤ maxLen) (h6 : s6.size ≤ maxLen) (h8 : s8.size ≤ maxLen) (h9 : s9.size ≤ maxLen) (h10 : s10.size ≤ maxLen)
    (hg : Grid w a n) (hn : n ≤ maxLen) :
    Calls Try.prog 6 #[.string s0, .string s1, .string s2, .string s3, .string s4, .slice a n c, .string s6, .string s8, .string s9, .string s10] w fun e w' => AnswersShort s6 e ∧ w' = w := by
  unfold maxLen at h0 h1 h2 h3 h4 h6 h8 h9 h10 hn
  go_enter Try.func6, Try.ntmps6
  go_wp2
  all_goals (first | (go_ret; exact ⟨AnswersShort.yes _, rfl⟩) | skip)
  go_loop [21, 22] (fun z i => ∃ (k : Nat) (m : Int), k ≤ n ∧ 0 ≤ m ∧ m ≤ 1048576 ∧ i = .int .i64 k ∧ z = .int .i64 m) (fun _ i => n - (intOf i).toNat)
  case atStart => exact ⟨0, _, Nat.zero_le _, by omega, by omega, rfl, rfl⟩
  case round =>
    obtain ⟨k, m, hk, hm0, hm1, rfl, rfl⟩ := hrel
    by_cases hlt : k < n
    · rcases hg with hg | ⟨b, o, rfl, hn, hrow⟩
      · omega
      unfold maxLen at hn
      obtain ⟨a', n', c', hc, hs⟩ := hrow k hlt
      clear hrow
      have hn' : n' ≤ 2 ^ 63 - 1 := by
        rcases hs with hs | ⟨_, _, _, hs, _⟩
        · omega
        · exact hs
      go_wp2
      all_goals (first | (go_ret; exact ⟨AnswersShort.yes _, rfl⟩) | skip)
      go_loop [21, 24] (fun z i => ∃ (j : Nat) (m : Int), j ≤ n' ∧ 0 ≤ m ∧ m ≤ 1048576 ∧ i = .int .i64 j ∧ z = .int .i64 m) (fun _ i => n' - (intOf i).toNat)
      case atStart => exact ⟨0, _, Nat.zero_le _, by omega, by omega, rfl, rfl⟩
      case round =>
        obtain ⟨j, m, hj, hm0, hm1, rfl, rfl⟩ := hrel
        by_cases hjt : j < n'
        · rcases hs with hs | ⟨b', o', rfl, _, hrow⟩
          · omega
          obtain ⟨s, hc', hs⟩ := hrow j hjt
          unfold maxLen at hs
          clear hrow
          go_wp2
          all_goals (first | (go_ret; exact ⟨AnswersShort.yes _, rfl⟩) | skip)
          go_round
          case rel => exact ⟨j + 1, _, by omega, by omega, by omega, by go_num, rfl⟩
          case measure => simp [intOf]; omega
        · go_wp2
          go_round
          case rel => exact ⟨k + 1, _, by omega, hm0, hm1, by go_num, rfl⟩
          case measure => simp [intOf]; omega
    · go_wp2
      go_ret
      exact ⟨AnswersShort.no _ ‹_›, rfl⟩
end Go.Proofs.Qxb6626921a
