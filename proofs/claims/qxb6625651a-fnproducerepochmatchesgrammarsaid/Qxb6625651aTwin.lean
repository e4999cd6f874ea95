/-
  The walks of the reader's twins.
-/
import Derived.Test.Qxb6625651aEpoch
namespace Go.Proofs.Qxb6625651a
open Go.ChangeShapes Go.WideShapes Go.ChangeAt Go.RowKit
set_option linter.unusedVariables false

theorem Rdr.drewN {w : World} {R : Nat} {a : Option Addr} {n c : Nat} {f : Bool} (h : Rdr w R a n c f) (q : Nat) : Rdr (w.drewN q) R a n c f := h
theorem Suf.drewN {w : World} {a : Option Addr} {n c : Nat} {l : List Nat} (h : Suf w a n c l) (q : Nat) : Suf (w.drewN q) a n c l :=
  ⟨h.len, h.cap, h.capB, h.nil, h.byte, h.mem⟩

set_option maxHeartbeats 1000000 in
set_option maxRecDepth 100000 in
theorem zzEpoch_calls (R : Nat) (a : Option Addr) (n c : Nat) (f : Bool) (l : List Nat) (w : World) (hr : Rdr w R a n c f) (hs : Suf w a n c l) (hap : Apart R a) :
    Calls Try.prog 8 #[.pointer (some ⟨R, 0, none⟩)] w fun e w' =>
      e = .returned (.tuple #[.int .i64 (epoch l f).1, .int .i16 (epoch l f).2.1]) ∧ Left R w w' (epoch l f).2.2.1 (epoch l f).2.2.2 := by
  go_enter Try.func8, Try.ntmps8
  go_wp2_with fail
  refine (epoch_calls R a n c f l w hr hs hap).mono ?_
  rintro e w1 ⟨rfl, ⟨a1, n1, c1, hr1, hs1, hap1⟩, hk1⟩
  clear hr hs hap
  obtain ⟨r, q⟩ : ∃ r, r = epoch l f := ⟨_, rfl⟩
  have Q : Hid (r = epoch l f) := q
  rw [← q] at hr1 hs1
  rw [← q]
  clear q
  go_wp2_with fail
  go_quiet (fail)
  go_wp2
  go_ret2
  have hb : Below w1.heap.size w1 _ := (Below.refl w1.heap.size w1).alloc (Nat.le_refl _) (.cells #[.int .i64 r.1, .int .i16 r.2.1] 40 (0, 0))
  rw [← Q.out]
  exact ⟨rfl, ⟨a1, n1, c1, (hr1.below hb).drewN _, (hs1.below hb).drewN _, hap1⟩, (hk1.alloc _).drewN _⟩

theorem new_calls (a : Option Addr) (n c : Nat) (f : Bool) (w : World) :
    Calls Try.prog 7 #[.slice a n c, .bool f] w fun e w' => e = .returned (.pointer (some ⟨w.heap.size, 0, none⟩)) ∧ Rdr w' w.heap.size a n c f ∧ Below w.heap.size w w' := by
  go_enter Try.func7, Try.ntmps7
  go_wp2
  go_ret
  exact ⟨rfl, heap_alloc_new _ _, (Below.refl _ _).alloc (Nat.le_refl _) _⟩
theorem rest_calls (R : Nat) (a : Option Addr) (n c : Nat) (f : Bool) (w : World) (hr : Rdr w R a n c f) :
    Calls Try.prog 9 #[.pointer (some ⟨R, 0, none⟩)] w fun e w' => e = .returned (.slice a n c) ∧ w = w' := by
  have h := hr.rest
  clear hr
  go_enter Try.func9, Try.ntmps9
  go_wp2
  go_ret
  exact ⟨rfl, rfl⟩
theorem failed_calls (R : Nat) (a : Option Addr) (n c : Nat) (f : Bool) (w : World) (hr : Rdr w R a n c f) :
    Calls Try.prog 10 #[.pointer (some ⟨R, 0, none⟩)] w fun e w' => e = .returned (.bool f) ∧ w = w' := by
  have h := hr.failed
  clear hr
  go_enter Try.func10, Try.ntmps10
  go_wp2
  go_ret
  exact ⟨rfl, rfl⟩
end Go.Proofs.Qxb6625651a
