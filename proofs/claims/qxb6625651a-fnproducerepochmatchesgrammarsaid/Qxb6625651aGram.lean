/-
  The walk of FnProducerEpochMatchesGrammar.
-/
import Derived.Test.Qxb6625651aModel
namespace Go.Proofs.Qxb6625651a
open Go.ChangeShapes Go.WideShapes Go.ChangeAt Go.RowKit
set_option linter.unusedVariables false

/-- b[o:]. -/
theorem run_slice8 (w : World) (a : Option Addr) (n c : Nat) (l : List Nat) (h : Suf w a n c l) (o : Nat) (ho : o ≤ n) :
    ∃ a', (∀ W, (Instr.slice 22 (.slice a n c) (some (.int .i64 (o : Int))) none none).run Try.prog W = .ok (.slice a' (n - o) (c - o)) W) ∧ Suf w a' (n - o) (c - o) (l.drop o) := by
  refine ⟨if c = o then a else a.map (·.add (o * 1)), fun W => ?_, ?_⟩
  · have hsz : (sizeOf (Try.prog.elem 22)).run Try.prog W = .ok 1 W := by kernel_rfl
    rw [run_slice_l W 22 a n c (by kernel_rfl) .i64 (o : Int) (by omega) (by omega), hsz]
    simp only [Result.andThen_ok, sliced, Int.toNat_natCast]
  · obtain ⟨h1, h2, h3, h4, h5, h6⟩ := h
    refine ⟨by rw [List.length_drop, h1], by omega, by omega, fun hn => ?_, fun x hx => h5 x (List.mem_of_mem_drop hx), ?_⟩
    · by_cases hc : c = o
      · omega
      · rw [if_neg hc] at hn
        cases a with
        | none => have := h4 rfl; omega
        | some x => cases hn
    · by_cases hon : o < n
      · right
        rcases h6 with h6 | ⟨b, p, rfl, hlt, hc⟩
        · subst h6; simp at h1; omega
        · refine ⟨b, p + o, ?_, hlt, fun i hi => ?_⟩
          · rw [if_neg (by omega), Nat.mul_one]
            simp only [Option.map_some, add_plain]
          · rw [Nat.add_assoc, hc (o + i) (by omega), getD_drop]
      · left
        exact List.drop_eq_nil_of_le (by omega)

/-- What peClone answers, with the block's bound. -/
def Cloned2 (w : World) (l : List Nat) (e : Ending) (w' : World) : Prop := ∃ a c, e = .returned (.slice a l.length c) ∧ Suf w' a l.length c l ∧ Below w.heap.size w w' ∧ ∀ x, a = some x → x.block < w'.heap.size

set_option maxHeartbeats 1000000 in
set_option maxRecDepth 100000 in
theorem clone2_calls (a : Option Addr) (n c : Nat) (l : List Nat) (w : World) (hs : Inp w a n c l) (hn : n ≤ 100000000) :
    Calls Try.prog 6 #[.slice a n c] w fun e w' => Cloned2 w l e w' := by
  have hlen := hs.len
  subst hlen
  cases a with
  | none =>
    have hc := hs.nil rfl
    have hcap := hs.cap
    have hl : l = [] := List.eq_nil_of_length_eq_zero (by omega)
    subst hl
    subst hc
    have HC : Hid (Cloned2 w [] (.returned (.slice none 0 0)) w) := ⟨none, 0, rfl, ⟨rfl, Nat.le_refl _, by decide, fun _ => rfl, hs.byte, Or.inl rfl⟩, Below.refl _ _, fun x hx => by cases hx⟩
    have hq : (binOp .eql 22 (.slice none 0 0) (.slice none 0 0)).run Try.prog w = .ok (.bool true) w := run_eql_nil w none 0 0
    clear hs
    go_enter Try.func6, Try.ntmps6
    go_wp2
    go_ret
    exact HC.out
  | some x =>
    have hmk := run_make8 l.length hn
    have hq : (binOp .eql 22 (.slice (some x) l.length c) (.slice none 0 0)).run Try.prog w = .ok (.bool false) w := run_eql_nil w (some x) l.length c
    have hcap := hs.cap
    have hcB := hs.capB
    have hU : U8s (w.alloc (.cells (u8s (zeros l.length)).toArray 5)) w.heap.size (cpy l 0) := by rw [cpy_zero]; exact U8s.made w _
    have hbel : Below w.heap.size w (w.alloc (.cells (u8s (zeros l.length)).toArray 5)) := (Below.refl _ _).alloc (Nat.le_refl _) _
    go_enter Try.func6, Try.ntmps6
    go_wp2_with fail
    generalize w.alloc (.cells (u8s (zeros l.length)).toArray 5) = W0 at *
    obtain ⟨B, hB⟩ : ∃ B, B = w.heap.size := ⟨_, rfl⟩
    rw [← hB] at hU hbel
    rw [← hB]
    have HB : Hid (B = w.heap.size) := hB
    clear hB hmk
    go_loopw [4] (fun i wr => ∃ k : Nat, k ≤ l.length ∧ i = .int .i64 k ∧ U8s wr B (cpy l k) ∧ Below B w wr) (fun i _ => l.length - (intOf i).toNat)
    case atStart => exact ⟨0, Nat.zero_le _, rfl, hU, hbel⟩
    case round =>
      clear hU hbel
      obtain ⟨k, hk, rfl, hu, hbw⟩ := hrel
      by_cases hlt : k < l.length
      · obtain ⟨hblt, hcell⟩ := hs.mem x rfl k hlt
        have hblk : (x.add k).block = x.block := by unfold Addr.add; split <;> rfl
        have hsrc := (hbw.cell (p := x.add k) (by rw [HB.out, hblk]; exact hblt)).trans hcell
        have hdst := hu.cell (i := k) (by rw [cpy_len l k (by omega)]; exact hlt)
        have hfree := hu.free k
        have hset := hu.set k (l.getD k 0)
        rw [cpy_step l k hlt] at hset
        have hbw' := hbw.setCell (p := ⟨B, k, none⟩) (Nat.le_refl _) (.int .u8 ((l.getD k 0 : Nat) : Int))
        have hby := getD_byte hs.byte k
        generalize l.getD k 0 = d at *
        clear hu hcell hs
        go_wp2
        go_roundw
        case rel => exact ⟨k + 1, by omega, by go_num, hset, hbw'⟩
        case measure => simp [intOf]; omega
      · have hke : k = l.length := by omega
        subst hke
        rw [cpy_all] at hu
        have hul := hu.lt
        have HC : Hid (Cloned2 w l (.returned (.slice (some ⟨B, 0, none⟩) l.length l.length)) wr) := ⟨_, _, rfl, hu.suf hs.byte (by omega), by rw [← HB.out]; exact hbw, fun x hx => by cases hx; exact hul⟩
        clear hu hbw hs hul
        go_wp2
        go_ret
        exact HC.out

set_option maxHeartbeats 2000000 in
set_option maxRecDepth 100000 in
theorem gram_calls (a : Option Addr) (n c : Nat) (l : List Nat) (f : Bool) (w : World) (hs : Inp w a n c l) (hn : n ≤ 1048576) :
    Calls Try.prog 3 #[.slice a n c, .bool f] w fun e w' => e = .returned (.bool true) ∧ Below w.heap.size w w' := by
  have hcap := hs.cap
  have hcB := hs.capB
  have HI : Hid (Inp w a n c l) := hs
  clear hs
  go_enter Try.func3, Try.ntmps3
  go_wp2_with fail
  refine (bytes5_calls a n c f w hn).mono ?_
  rintro e w1 ⟨rfl, rfl⟩
  go_wp2_with fail
  refine (clone2_calls a n c l w HI.out (by omega)).mono ?_
  rintro e w1 ⟨a1, c1, rfl, hs1, hb1, hup⟩
  have hln := HI.out.len
  have hll : l.length ≤ 1048576 := by rw [hln]; exact hn
  clear HI hcap hcB hn hln
  have S1 : Hid (Suf w1 a1 l.length c1 l) := hs1
  have UP : Hid (∀ x, a1 = some x → x.block < w1.heap.size) := hup
  have B1 : Hid (Below w.heap.size w w1) := hb1
  clear hs1 hup hb1
  go_wp2_with fail
  refine (clone_calls a1 l.length c1 l w1 S1.out (by omega)).mono ?_
  rintro e w2 ⟨a2, c2, rfl, hs2, hb2, -⟩
  have S2 : Hid (Suf w2 a2 l.length c2 l) := hs2
  have S1' : Hid (Suf w2 a1 l.length c1 l) := S1.out.below hb2
  have AP : Hid (Apart w2.heap.size a1) := fun x hx => by have := UP.out x hx; have := hb2.size; omega
  have B2 : Hid (Below w.heap.size w w2) := B1.out.trans (hb2.mono B1.out.size)
  clear hs2 hb2 S1 UP B1
  go_wp2_with fail
  refine (new_calls a1 l.length c1 f w2).mono ?_
  rintro e w3 ⟨rfl, hr3, hb3⟩
  have RD3 : Hid (Rdr w3 w2.heap.size a1 l.length c1 f) := hr3
  have K3 : Hid (Below w2.heap.size w2 w3) := hb3
  have S13 : Hid (Suf w3 a1 l.length c1 l) := S1'.out.below hb3
  obtain ⟨R, hR⟩ : ∃ R, R = w2.heap.size := ⟨_, rfl⟩
  have HR : Hid (R = w2.heap.size) := hR
  clear hr3 hb3 S1'
  rw [← hR] at RD3 AP K3
  rw [← hR]
  clear hR
  go_wp2_with fail
  refine (zzEpoch_calls R a1 l.length c1 f l w3 RD3.out S13.out AP.out).mono ?_
  rintro e w4 ⟨rfl, hL⟩
  have hfit := mdl_fit l f
  have hep := mdl_epoch l f
  obtain ⟨m, hm⟩ : ∃ m, m = mdl l f := ⟨_, rfl⟩
  have HM : Hid (m = mdl l f) := hm
  rw [← hm] at hfit hep
  rw [hep] at hL
  rw [hep]
  clear hep hm
  obtain ⟨id, ep, o, g⟩ := m
  dsimp only at hfit hL ⊢
  obtain ⟨⟨a4, n4, c4, hrd, hsr, -⟩, hk4⟩ := hL
  have RD4 : Hid (Rdr w4 R a4 n4 c4 g) := hrd
  have S4 : Hid (Suf w4 a4 n4 c4 (l.drop o)) := hsr
  have hKK : Below w2.heap.size w2 w4 := by rw [← HR.out]; exact K3.out.trans (hk4.below (by rw [HR.out]; exact K3.out.size) (Nat.le_refl _))
  have S24 : Hid (Suf w4 a2 l.length c2 l) := S2.out.below hKK
  have B4 : Hid (Below w.heap.size w w4) := B2.out.trans (hKK.mono B2.out.size)
  clear hrd hsr hk4 hKK K3 S2 B2 RD3 S13 AP
  go_wp2_with fail
  refine (rest_calls R a4 n4 c4 g w4 RD4.out).mono ?_
  rintro e w5 ⟨rfl, rfl⟩
  go_wp2_with fail
  refine (failed_calls R a4 n4 c4 g w4 RD4.out).mono ?_
  rintro e w5 ⟨rfl, rfl⟩
  clear RD4
  go_wp2_with fail
  refine (model_calls a2 l.length c2 l f w4 S24.out hll).mono ?_
  rintro e w5 ⟨rfl, hsm⟩
  rw [← HM.out]
  dsimp only
  have S5 : Hid (Suf w5 a4 n4 c4 (l.drop o)) := S4.out.below (hsm.below _)
  have S25 : Hid (Suf w5 a2 l.length c2 l) := S24.out.below (hsm.below _)
  have B5 : Hid (Below w.heap.size w w5) := B4.out.trans (hsm.below _)
  clear hsm S4 S24 B4
  obtain ⟨a6, hsl, hs6⟩ := run_slice8 w5 a2 l.length c2 l S25.out o hfit
  have S6 : Hid (Suf w5 a6 (l.length - o) (c2 - o) (l.drop o)) := hs6
  have hc2 := S25.out.cap
  have hc2B := S25.out.capB
  clear hs6 S25
  have hg1 : (id != id) = false := by simp
  have hg2 : (ep != ep) = false := by simp
  cases g
  all_goals
    go_wp2_with fail
    refine (equal_calls a4 n4 c4 (l.drop o) a6 (l.length - o) (c2 - o) (l.drop o) w5 S5.out S6.out).mono ?_
    rintro e w6 ⟨rfl, hs6⟩
    rw [show (l.drop o == l.drop o) = true from beq_self_eq_true _]
    have B6 : Hid (Below w.heap.size w w6) := B5.out.trans (hs6.below _)
    clear hs6 hsl
    go_wp2
    go_ret
    exact ⟨rfl, B6.out⟩
end Go.Proofs.Qxb6625651a
