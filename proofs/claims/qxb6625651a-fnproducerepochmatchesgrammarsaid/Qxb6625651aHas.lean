/-
  The walk of peHasAt.
-/
import Derived.Test.Qxb6625651aRoom
namespace Go.Proofs.Qxb6625651a
open Go.ChangeShapes Go.WideShapes Go.ChangeAt Go.RowKit
set_option linter.unusedVariables false

theorem getD_drop (l : List Nat) (off k : Nat) : (l.drop off).getD k 0 = l.getD (off + k) 0 := by
  simp [List.getD_eq_getElem?_getD]
theorem pre_true (l sl : List Nat) (off : Nat) (hl : off + sl.length ≤ l.length) (h : ∀ j, j < sl.length → l.getD (off + j) 0 = sl.getD j 0) : sl.isPrefixOf (l.drop off) = true := by
  rw [prefix_take, decide_eq_true (by rw [List.length_drop]; omega), Bool.true_and]
  refine eq_of_getD _ _ (by simp; omega) (fun j hj => ?_)
  have hj' : j < sl.length := by simp at hj; omega
  rw [← h j hj', ← getD_drop]
  simp [List.getD_eq_getElem?_getD, hj']
theorem pre_false (l sl : List Nat) (off j : Nat) (hj : j < sl.length) (h : l.getD (off + j) 0 ≠ sl.getD j 0) : sl.isPrefixOf (l.drop off) = false := by
  rw [prefix_take]
  have : ((l.drop off).take sl.length == sl) = false := by
    apply ne_of_getD _ _ j
    rw [← getD_drop] at h
    intro he
    apply h
    rw [← he]
    simp [List.getD_eq_getElem?_getD, hj]
  rw [this, Bool.and_false]
theorem pre_short (l sl : List Nat) (off : Nat) (h : l.length < off + sl.length) (h0 : off ≤ l.length) : sl.isPrefixOf (l.drop off) = false := by
  rw [prefix_take, decide_eq_false (by rw [List.length_drop]; omega), Bool.false_and]

theorem run_index_bs (b : List Nat) (hb : ∀ x ∈ b, x < 256) (k : Nat) (hk : k < b.length) (w : World) :
    (Instr.index 9 (.string (bs b)) (.int .i64 (k : Int))).run Try.prog w = .ok (.int .u8 ((b.getD k 0 : Nat) : Int)) w := by
  have hsz := bs_size b
  rw [run_index_string w 9 (bs b) .i64 k Try.underlying9, dif_pos (by omega)]
  have hx := hb b[k] (List.getElem_mem hk)
  have : ((bs b)[((k : Int)).toNat]'(by omega)).toNat = b.getD k 0 := by
    show ((bs b).data[k]'(by simp [bs]; omega)).toNat = _
    simp [bs, hk]
    omega
  rw [this]

set_option maxHeartbeats 1000000 in
set_option maxRecDepth 100000 in
theorem hasAt_calls (a : Option Addr) (n c : Nat) (l : List Nat) (off : Nat) (sl : List Nat) (w : World) (hs : Suf w a n c l) (ho : off ≤ n) (hb : ∀ x ∈ sl, x < 256) (h100 : sl.length ≤ 100) :
    Calls Try.prog 16 #[.slice a n c, .int .i64 (off : Int), .string (bs sl)] w fun e w' => e = .returned (.bool (sl.isPrefixOf (l.drop off))) ∧ Same w w' := by
  have hlen := hs.len
  have hcap := hs.cap
  have hcB := hs.capB
  have hsz := bs_size sl
  have hg1 : decide ((off : Int) < 0) = false := decide_eq_false (by omega)
  have hg2 : decide ((n : Int) < (off : Int)) = false := decide_eq_false (by omega)
  by_cases hsh : n < off + sl.length
  · have HP : Hid (sl.isPrefixOf (l.drop off) = false) := pre_short l sl off (by omega) (by omega)
    have hg3 : decide ((n : Int) - (off : Int) < (sl.length : Int)) = true := decide_eq_true (by omega)
    clear hs hb hlen
    go_enter Try.func16, Try.ntmps16
    go_wp2
    go_ret
    exact ⟨by rw [HP.out]; rfl, Same.refl w⟩
  · have hg3 : decide ((n : Int) - (off : Int) < (sl.length : Int)) = false := decide_eq_false (by omega)
    have HS : Hid (Suf w a n c l) := hs
    have HB : Hid (∀ x ∈ sl, x < 256) := hb
    have HLE : Hid (l.length = n) := hlen
    clear hs hb hlen
    go_enter Try.func16, Try.ntmps16
    go_wp2_with fail
    go_loopw [7] (fun i wr => ∃ k : Nat, k ≤ sl.length ∧ i = .int .i64 k ∧ (∀ j, j < k → l.getD (off + j) 0 = sl.getD j 0) ∧ Same w wr) (fun i _ => sl.length - (intOf i).toNat)
    case atStart => exact ⟨0, Nat.zero_le _, rfl, fun j hj => by omega, Same.refl w⟩
    case round =>
      obtain ⟨k, hk, rfl, hag, hsm⟩ := hrel
      have HA : Hid (∀ j, j < k → l.getD (off + j) 0 = sl.getD j 0) := hag
      clear hag
      by_cases hlt : k < sl.length
      · obtain ⟨b, o, rfl, hblt, hcell⟩ := HS.out.cell (show 0 < n by omega)
        have hc0 := (hsm.cell _).trans (hcell (off + k) (by omega))
        have hix := run_index_bs sl HB.out k hlt
        have hkk : decide ((k : Int) < (sl.length : Int)) = true := decide_eq_true (by omega)
        have hby := getD_byte HS.out.byte (off + k)
        have hby' := getD_byte HB.out k
        by_cases hd : l.getD (off + k) 0 = sl.getD k 0
        · have HD : Hid (l.getD (off + k) 0 = sl.getD k 0) := hd
          rw [hd] at hc0
          obtain ⟨d, hdd⟩ : ∃ d, d = sl.getD k 0 := ⟨_, rfl⟩
          rw [← hdd] at hc0 hix
          clear hcell hd hdd hby hby'
          have hgd : ((d : Int) != (d : Int)) = false := by simp
          go_wp2_with fail
          go_quiet (fail)
          go_wp2
          go_roundw
          case rel => exact ⟨k + 1, by omega, by go_num, fun j hj => by
            rcases Nat.lt_or_ge j k with h1 | h1
            · exact HA.out j h1
            · rw [show j = k by omega]; exact HD.out, hsm.drewN _⟩
          case measure => simp [intOf]; omega
        · have HN : Hid (sl.isPrefixOf (l.drop off) = false) := pre_false l sl off k hlt hd
          clear hcell
          generalize sl.getD k 0 = d at *
          generalize l.getD (off + k) 0 = d' at *
          have hgd : ((d' : Int) != (d : Int)) = true := by simp; omega
          go_wp2_with fail
          go_quiet (fail)
          go_wp2
          go_ret
          exact ⟨by rw [HN.out]; rfl, hsm.drewN _⟩
      · have hkk : decide ((k : Int) < (sl.length : Int)) = false := decide_eq_false (by omega)
        have HE : Hid (sl.isPrefixOf (l.drop off) = true) := pre_true l sl off (by rw [HLE.out]; omega) (fun j hj => HA.out j (by omega))
        go_wp2
        go_ret
        exact ⟨by rw [HE.out]; rfl, hsm⟩
end Go.Proofs.Qxb6625651a
