/-
  Rows of bytes, make, and the walks of peClone and peEqual.
-/
import Derived.Test.Qxb6625651aOwn
namespace Go.Proofs.Qxb6625651a
open Go.ChangeShapes Go.WideShapes Go.ChangeAt Go.RowKit
set_option linter.unusedVariables false

def U8s (w : World) (b : Nat) (l : List Nat) : Prop := w.heap[b]? = some (.cells (u8s l).toArray 5 (0, 0))
theorem U8s.lt {w : World} {b : Nat} {l : List Nat} (h : U8s w b l) : b < w.heap.size := by
  unfold U8s at h
  rcases Nat.lt_or_ge b w.heap.size with h' | h'
  · exact h'
  · rw [Array.getElem?_eq_none h'] at h
    cases h
theorem U8s.cell {w : World} {b : Nat} {l : List Nat} (h : U8s w b l) {i : Nat} (hi : i < l.length) : w.cell? ⟨b, i, none⟩ = some (.int .u8 ((l.getD i 0 : Nat) : Int)) := by
  unfold U8s at h
  simp [World.cell?, h, u8s, hi]
theorem U8s.free {w : World} {b : Nat} {l : List Nat} (h : U8s w b l) (i : Nat) : w.frozen? ⟨b, i, none⟩ = false := by
  unfold U8s at h
  simp [World.frozen?, h]
theorem U8s.set {w : World} {b : Nat} {l : List Nat} (h : U8s w b l) (i n : Nat) : U8s (w.setCell ⟨b, i, none⟩ (.int .u8 (n : Int))) b (l.set i n) := by
  unfold U8s at h ⊢
  simp only [World.setCell, Array.getElem?_modify, if_true, h, Option.map_some]
  congr 2
  simp [u8s, List.map_set]
theorem U8s.made (w : World) (l : List Nat) : U8s (w.alloc (.cells (u8s l).toArray 5)) w.heap.size l := heap_alloc_new _ _
theorem U8s.suf {w : World} {b : Nat} {l : List Nat} (h : U8s w b l) (hb : ∀ x ∈ l, x < 256) (hB : l.length ≤ 9223372036854775807) : Suf w (some ⟨b, 0, none⟩) l.length l.length l :=
  ⟨rfl, Nat.le_refl _, hB, (fun h => by cases h), hb, Or.inr ⟨b, 0, rfl, h.lt, fun i hi => by rw [Nat.zero_add]; exact h.cell hi⟩⟩
theorem info5 : (Try.prog.info? 5).map (fun i => (i.zero, i.size, i.bytes)) = some (some (.int .u8 0), 1, 1) := by kernel_rfl
def zeros (n : Nat) : List Nat := List.replicate n 0
theorem zeros_length (n : Nat) : (zeros n).length = n := by simp [zeros]
theorem zeros_succ (n : Nat) : zeros (n + 1) = 0 :: zeros n := by simp [zeros, List.replicate_succ]
theorem made_zeros (n : Nat) : madeCells #[Value.int .u8 0] n = (u8s (zeros n)).toArray := by
  apply Array.ext_getElem?
  intro i
  simp [madeCells, u8s, zeros]
  by_cases h : i < n
  · simp [h, Nat.mod_one]
  · simp [h]
theorem run_make8 (n : Nat) (hn : n ≤ 100000000) (w : World) :
    (Instr.makeSlice 22 (.int .i64 (n : Int)) (.int .i64 (n : Int))).run Try.prog w = .ok (.slice (some ⟨w.heap.size, 0, none⟩) n n) (w.alloc (.cells (u8s (zeros n)).toArray 5)) := by
  rw [← made_zeros]
  exact run_make_row' 22 5 (.int .u8 0) 1 Try.underlying22 info5 rfl .i64 .i64 n (by omega) (by omega) w

/-- The first k bytes are copied. -/
def cpy (l : List Nat) (k : Nat) : List Nat := l.take k ++ zeros (l.length - k)
theorem cpy_len (l : List Nat) (k : Nat) (h : k ≤ l.length) : (cpy l k).length = l.length := by simp [cpy, zeros_length]; omega
theorem cpy_zero (l : List Nat) : cpy l 0 = zeros l.length := by simp [cpy]
theorem cpy_all (l : List Nat) : cpy l l.length = l := by simp [cpy, zeros]
theorem cpy_step (l : List Nat) (k : Nat) (h : k < l.length) : (cpy l k).set k (l.getD k 0) = cpy l (k + 1) := by
  have hl : (l.take k).length = k := by simp; omega
  unfold cpy
  rw [show l.length - k = (l.length - (k + 1)) + 1 by omega, zeros_succ, List.set_append, if_neg (by omega), hl, Nat.sub_self, List.set_cons_zero, List.take_succ_eq_append_getElem h, List.append_assoc]
  simp [h]

/-- What peClone answers. -/
def Cloned (w : World) (l : List Nat) (e : Ending) (w' : World) : Prop := ∃ a c, e = .returned (.slice a l.length c) ∧ Suf w' a l.length c l ∧ Below w.heap.size w w' ∧ ∀ x, a = some x → w.heap.size ≤ x.block

theorem run_eql_nil (w : World) (a : Option Addr) (n c : Nat) : (binOp .eql 22 (.slice a n c) (.slice none 0 0)).run Try.prog w = .ok (.bool a.isNone) w := by
  simp [binOp, run_equal_slice_nil w 22 5 a n c Try.underlying22]

set_option maxHeartbeats 1000000 in
set_option maxRecDepth 100000 in
theorem clone_calls (a : Option Addr) (n c : Nat) (l : List Nat) (w : World) (hs : Suf w a n c l) (hn : n ≤ 100000000) :
    Calls Try.prog 6 #[.slice a n c] w fun e w' => Cloned w l e w' := by
  have hlen := hs.len
  subst hlen
  cases a with
  | none =>
    have hc := hs.nil rfl
    have hcap := hs.cap
    have hl : l = [] := List.eq_nil_of_length_eq_zero (by omega)
    subst hl
    subst hc
    have HC : Hid (Cloned w [] (.returned (.slice none 0 0)) w) := ⟨none, 0, rfl, hs, Below.refl _ _, fun x hx => by cases hx⟩
    have hq : (binOp .eql 22 (.slice none 0 0) (.slice none 0 0)).run Try.prog w = .ok (.bool true) w := run_eql_nil w none 0 0
    clear hs
    go_enter Try.func6, Try.ntmps6
    go_wp2
    go_ret
    exact HC.out
  | some x =>
    have hmk := run_make8 l.length hn
    have hq : (binOp .eql 22 (.slice (some x) l.length c) (.slice none 0 0)).run Try.prog w = .ok (.bool false) w := run_eql_nil w (some x) l.length c
    have hcap := hs.cap
    have hcB := hs.capB
    have hU : U8s (w.alloc (.cells (u8s (zeros l.length)).toArray 5)) w.heap.size (cpy l 0) := by rw [cpy_zero]; exact U8s.made w _
    have hbel : Below w.heap.size w (w.alloc (.cells (u8s (zeros l.length)).toArray 5)) := (Below.refl _ _).alloc (Nat.le_refl _) _
    go_enter Try.func6, Try.ntmps6
    go_wp2_with fail
    generalize w.alloc (.cells (u8s (zeros l.length)).toArray 5) = W0 at *
    obtain ⟨B, hB⟩ : ∃ B, B = w.heap.size := ⟨_, rfl⟩
    rw [← hB] at hU hbel
    rw [← hB]
    have HB : Hid (B = w.heap.size) := hB
    clear hB hmk
    go_loopw [4] (fun i wr => ∃ k : Nat, k ≤ l.length ∧ i = .int .i64 k ∧ U8s wr B (cpy l k) ∧ Below B w wr) (fun i _ => l.length - (intOf i).toNat)
    case atStart => exact ⟨0, Nat.zero_le _, rfl, hU, hbel⟩
    case round =>
      clear hU hbel
      obtain ⟨k, hk, rfl, hu, hbw⟩ := hrel
      by_cases hlt : k < l.length
      · obtain ⟨b, o, he, hblt, hcell⟩ := hs.cell hlt
        cases he
        have hsrc := (hbw.cell (p := ⟨b, o + k, none⟩) (by rw [HB.out]; exact hblt)).trans (hcell k hlt)
        have hdst := hu.cell (i := k) (by rw [cpy_len l k (by omega)]; exact hlt)
        have hfree := hu.free k
        have hset := hu.set k (l.getD k 0)
        rw [cpy_step l k hlt] at hset
        have hbw' := hbw.setCell (p := ⟨B, k, none⟩) (Nat.le_refl _) (.int .u8 ((l.getD k 0 : Nat) : Int))
        have hby := getD_byte hs.byte k
        generalize l.getD k 0 = d at *
        clear hu hcell hs
        go_wp2
        go_roundw
        case rel => exact ⟨k + 1, by omega, by go_num, hset, hbw'⟩
        case measure => simp [intOf]; omega
      · have hke : k = l.length := by omega
        subst hke
        rw [cpy_all] at hu
        have HC : Hid (Cloned w l (.returned (.slice (some ⟨B, 0, none⟩) l.length l.length)) wr) := ⟨_, _, rfl, hu.suf hs.byte (by omega), by rw [← HB.out]; exact hbw, fun x hx => by cases hx; rw [← HB.out]; exact Nat.le_refl _⟩
        clear hu hbw hs
        go_wp2
        go_ret
        exact HC.out
end Go.Proofs.Qxb6625651a
