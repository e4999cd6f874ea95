/-
  The walk of peEqual.
-/
import Derived.Test.Qxb6625651aClone
namespace Go.Proofs.Qxb6625651a
open Go.ChangeShapes Go.WideShapes Go.ChangeAt Go.RowKit
set_option linter.unusedVariables false

/-- Nothing but the count of draws turned. -/
structure Same (w w' : World) : Prop where
  heap : w'.heap = w.heap
  os : w'.os = w.os
  tape : w'.tape = w.tape
  output : w'.output = w.output
theorem Same.refl (w : World) : Same w w := ⟨rfl, rfl, rfl, rfl⟩
theorem Same.drewN {w w' : World} (h : Same w w') (q : Nat) : Same w (w'.drewN q) := ⟨h.heap, h.os, h.tape, h.output⟩
theorem Same.cell {w w' : World} (h : Same w w') (p : Addr) : w'.cell? p = w.cell? p := World.cell?_of_block (by rw [h.heap])
theorem Same.below {w w' : World} (h : Same w w') (B : Nat) : Below B w w' := ⟨h.os, h.tape, h.output, by rw [h.heap]; exact Nat.le_refl _, fun k _ => by rw [h.heap]⟩

theorem eq_of_getD (l r : List Nat) (h : l.length = r.length) (hg : ∀ j, j < l.length → l.getD j 0 = r.getD j 0) : (l == r) = true := by
  rw [beq_iff_eq]
  apply List.ext_getElem h
  intro i h1 h2
  have := hg i h1
  simpa [h1, h2] using this
theorem ne_of_getD (l r : List Nat) (j : Nat) (hg : l.getD j 0 ≠ r.getD j 0) : (l == r) = false := by
  rw [beq_eq_false_iff_ne]
  intro h
  rw [h] at hg
  exact hg rfl
theorem ne_of_len (l r : List Nat) (h : l.length ≠ r.length) : (l == r) = false := by
  rw [beq_eq_false_iff_ne]
  intro h1
  rw [h1] at h
  exact h rfl

set_option maxHeartbeats 1000000 in
set_option maxRecDepth 100000 in
theorem equal_calls (a : Option Addr) (n c : Nat) (l : List Nat) (a' : Option Addr) (n' c' : Nat) (r : List Nat) (w : World) (hs : Suf w a n c l) (hs' : Suf w a' n' c' r) :
    Calls Try.prog 12 #[.slice a n c, .slice a' n' c'] w fun e w' => e = .returned (.bool (l == r)) ∧ Same w w' := by
  have hlen := hs.len
  have hlen' := hs'.len
  have hcap := hs.cap
  have hcB := hs.capB
  have hcap' := hs'.cap
  have hcB' := hs'.capB
  by_cases hnn : n = n'
  · subst hnn
    have hg1 : ((n : Int) != (n : Int)) = false := by simp
    have HL : Hid (l.length = n) := hlen
    have HL' : Hid (r.length = n) := hlen'
    clear hlen hlen'
    go_enter Try.func12, Try.ntmps12
    go_wp2_with fail
    go_loopw [5] (fun i wr => ∃ k : Nat, k ≤ n ∧ i = .int .i64 k ∧ (∀ j, j < k → l.getD j 0 = r.getD j 0) ∧ Same w wr) (fun i _ => n - (intOf i).toNat)
    case atStart => exact ⟨0, Nat.zero_le _, rfl, fun j hj => by omega, Same.refl w⟩
    case round =>
      obtain ⟨k, hk, rfl, hag, hsm⟩ := hrel
      have HA : Hid (∀ j, j < k → l.getD j 0 = r.getD j 0) := hag
      clear hag
      by_cases hlt : k < n
      · obtain ⟨b, o, rfl, hblt, hcell⟩ := hs.cell hlt
        obtain ⟨b', o', rfl, hblt', hcell'⟩ := hs'.cell hlt
        have hc0 := (hsm.cell _).trans (hcell k hlt)
        have hc1 := (hsm.cell _).trans (hcell' k hlt)
        have hkk : (k : Int) < (n : Int) := by omega
        by_cases hd : l.getD k 0 = r.getD k 0
        · have HD : Hid (l.getD k 0 = r.getD k 0) := hd
          rw [hd] at hc0
          obtain ⟨d, hdd⟩ : ∃ d, d = r.getD k 0 := ⟨_, rfl⟩
          rw [← hdd] at hc0 hc1
          clear hcell hcell' hs hs' hd hdd
          have hgd : ((d : Int) != (d : Int)) = false := by simp
          go_wp2_with fail
          go_quiet (fail)
          go_wp2
          go_roundw
          case rel => exact ⟨k + 1, by omega, by go_num, fun j hj => by
            rcases Nat.lt_or_ge j k with h1 | h1
            · exact HA.out j h1
            · rw [show j = k by omega]; exact HD.out, hsm.drewN _⟩
          case measure => simp [intOf]; omega
        · have HN : Hid ((l == r) = false) := ne_of_getD l r k hd
          clear hcell hcell' hs hs'
          generalize r.getD k 0 = d at *
          generalize l.getD k 0 = d' at *
          have hgd : ((d' : Int) != (d : Int)) = true := by simp; omega
          go_wp2_with fail
          go_quiet (fail)
          go_wp2
          go_ret
          exact ⟨by rw [HN.out]; rfl, hsm.drewN _⟩
      · have hkk : decide ((k : Int) < (n : Int)) = false := decide_eq_false (by omega)
        have HE : Hid ((l == r) = true) := eq_of_getD l r (HL.out.trans HL'.out.symm) (fun j hj => HA.out j (by rw [HL.out] at hj; omega))
        clear hs hs'
        go_wp2
        go_ret
        exact ⟨by rw [HE.out]; rfl, hsm⟩
  · have HN : Hid ((l == r) = false) := ne_of_len l r (by omega)
    have hg1 : ((n : Int) != (n' : Int)) = true := by simp; omega
    clear hs hs'
    go_enter Try.func12, Try.ntmps12
    go_wp2
    go_ret
    exact ⟨by rw [HN.out]; rfl, Same.refl w⟩
end Go.Proofs.Qxb6625651a
