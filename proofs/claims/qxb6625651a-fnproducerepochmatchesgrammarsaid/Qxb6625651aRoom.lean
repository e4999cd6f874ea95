/-
  peClone of the caller's row, make with room, and the guards.
-/
import Derived.Test.Qxb6625651aAppRec
import Derived.Laws.MakeOwn
namespace Go.Proofs.Qxb6625651a
open Go.ChangeShapes Go.WideShapes Go.ChangeAt Go.RowKit
set_option linter.unusedVariables false

/-- The caller's slice: its address may bear a spot. -/
structure Inp (w : World) (a : Option Addr) (n c : Nat) (l : List Nat) : Prop where
  len : l.length = n
  cap : n ≤ c
  capB : c ≤ 9223372036854775807
  nil : a = none → c = 0
  byte : ∀ x ∈ l, x < 256
  mem : ∀ x, a = some x → ∀ i, i < n → x.block < w.heap.size ∧ w.cell? (x.add i) = some (.int .u8 ((l.getD i 0 : Nat) : Int))

theorem run_eql_nil' (w : World) (a : Option Addr) (n c : Nat) : (binOp .eql 22 (.slice a n c) (.slice none 0 0)).run Try.prog w = .ok (.bool a.isNone) w := run_eql_nil w a n c

set_option maxHeartbeats 1000000 in
set_option maxRecDepth 100000 in
theorem clone0_calls (a : Option Addr) (n c : Nat) (l : List Nat) (w : World) (hs : Inp w a n c l) (hn : n ≤ 100000000) :
    Calls Try.prog 6 #[.slice a n c] w fun e w' => Cloned w l e w' := by
  have hlen := hs.len
  subst hlen
  cases a with
  | none =>
    have hc := hs.nil rfl
    have hcap := hs.cap
    have hl : l = [] := List.eq_nil_of_length_eq_zero (by omega)
    subst hl
    subst hc
    exact clone_calls none 0 0 [] w ⟨rfl, Nat.le_refl _, by decide, fun _ => rfl, hs.byte, Or.inl rfl⟩ (by decide)
  | some x =>
    have hmk := run_make8 l.length hn
    have hq : (binOp .eql 22 (.slice (some x) l.length c) (.slice none 0 0)).run Try.prog w = .ok (.bool false) w := run_eql_nil w (some x) l.length c
    have hcap := hs.cap
    have hcB := hs.capB
    have hU : U8s (w.alloc (.cells (u8s (zeros l.length)).toArray 5)) w.heap.size (cpy l 0) := by rw [cpy_zero]; exact U8s.made w _
    have hbel : Below w.heap.size w (w.alloc (.cells (u8s (zeros l.length)).toArray 5)) := (Below.refl _ _).alloc (Nat.le_refl _) _
    go_enter Try.func6, Try.ntmps6
    go_wp2_with fail
    generalize w.alloc (.cells (u8s (zeros l.length)).toArray 5) = W0 at *
    obtain ⟨B, hB⟩ : ∃ B, B = w.heap.size := ⟨_, rfl⟩
    rw [← hB] at hU hbel
    rw [← hB]
    have HB : Hid (B = w.heap.size) := hB
    clear hB hmk
    go_loopw [4] (fun i wr => ∃ k : Nat, k ≤ l.length ∧ i = .int .i64 k ∧ U8s wr B (cpy l k) ∧ Below B w wr) (fun i _ => l.length - (intOf i).toNat)
    case atStart => exact ⟨0, Nat.zero_le _, rfl, hU, hbel⟩
    case round =>
      clear hU hbel
      obtain ⟨k, hk, rfl, hu, hbw⟩ := hrel
      by_cases hlt : k < l.length
      · obtain ⟨hblt, hcell⟩ := hs.mem x rfl k hlt
        have hblk : (x.add k).block = x.block := by unfold Addr.add; split <;> rfl
        have hsrc := (hbw.cell (p := x.add k) (by rw [HB.out, hblk]; exact hblt)).trans hcell
        have hdst := hu.cell (i := k) (by rw [cpy_len l k (by omega)]; exact hlt)
        have hfree := hu.free k
        have hset := hu.set k (l.getD k 0)
        rw [cpy_step l k hlt] at hset
        have hbw' := hbw.setCell (p := ⟨B, k, none⟩) (Nat.le_refl _) (.int .u8 ((l.getD k 0 : Nat) : Int))
        have hby := getD_byte hs.byte k
        generalize l.getD k 0 = d at *
        clear hu hcell hs
        go_wp2
        go_roundw
        case rel => exact ⟨k + 1, by omega, by go_num, hset, hbw'⟩
        case measure => simp [intOf]; omega
      · have hke : k = l.length := by omega
        subst hke
        rw [cpy_all] at hu
        have HC : Hid (Cloned w l (.returned (.slice (some ⟨B, 0, none⟩) l.length l.length)) wr) := ⟨_, _, rfl, hu.suf hs.byte (by omega), by rw [← HB.out]; exact hbw, fun x hx => by cases hx; rw [← HB.out]; exact Nat.le_refl _⟩
        clear hu hbw hs
        go_wp2
        go_ret
        exact HC.out

/-- make([]byte, 0, c). -/
theorem own_made (base c : Nat) (w : World) (hb : base ≤ w.heap.size) (hc : c ≤ 100000000) :
    ∃ w', (Instr.makeSlice 22 (.int .i64 0) (.int .i64 (c : Int))).run Try.prog w = .ok (.slice (some ⟨w.heap.size, 0, none⟩) 0 c) w' ∧
      Own w' base (.slice (some ⟨w.heap.size, 0, none⟩) 0 c) [] ∧ Below base w w' := by
  obtain ⟨i, hi, hzz⟩ := Option.map_eq_some_iff.1 info5
  simp only [Prod.mk.injEq] at hzz
  obtain ⟨hz, hs, hby⟩ := hzz
  obtain ⟨w', h1, h2, h3⟩ := run_make_own (P := Try.prog) w base 22 5 i (.int .u8 0) 1 Try.underlying22 hi hz hs .i64 .i64 c (by rw [hby]; omega) (by simp only [maxLen]; omega) hb
  exact ⟨w', h1, ⟨h2, fun x hx => by cases hx⟩, ⟨h3.os, h3.tape, h3.output, h3.size, fun k hk => h3.block k (by omega) (fun h => by cases h)⟩⟩

theorem bytes13_calls (x1 y1 x2 y2 : Int) (a : Option Addr) (n c : Nat) (w : World) (hn : n ≤ 1048576) :
    Calls Try.prog 13 #[.int .i64 x1, .int .i16 y1, .int .i64 x2, .int .i16 y2, .slice a n c] w fun e w' => e = .returned (.bool true) ∧ w = w' := by
  go_enter Try.func13, Try.ntmps13
  go_wp2
  go_ret
  exact ⟨rfl, rfl⟩
theorem bytes13_false (x1 y1 x2 y2 : Int) (a : Option Addr) (n c : Nat) (w : World) (hn : 1048576 < n) (hm : n ≤ 9223372036854775807) :
    Calls Try.prog 13 #[.int .i64 x1, .int .i16 y1, .int .i64 x2, .int .i16 y2, .slice a n c] w fun e w' => e = .returned (.bool false) ∧ w = w' := by
  go_enter Try.func13, Try.ntmps13
  go_wp2
  go_ret
  exact ⟨rfl, rfl⟩
theorem bytes5_calls (a : Option Addr) (n c : Nat) (f : Bool) (w : World) (hn : n ≤ 1048576) :
    Calls Try.prog 5 #[.slice a n c, .bool f] w fun e w' => e = .returned (.bool true) ∧ w = w' := by
  go_enter Try.func5, Try.ntmps5
  go_wp2
  go_ret
  exact ⟨rfl, rfl⟩
theorem bytes5_false (a : Option Addr) (n c : Nat) (f : Bool) (w : World) (hn : 1048576 < n) (hm : n ≤ 9223372036854775807) :
    Calls Try.prog 5 #[.slice a n c, .bool f] w fun e w' => e = .returned (.bool false) ∧ w = w' := by
  go_enter Try.func5, Try.ntmps5
  go_wp2
  go_ret
  exact ⟨rfl, rfl⟩
end Go.Proofs.Qxb6625651a
