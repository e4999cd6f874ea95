/-
  The walk of peNumeral.
-/
import Derived.Test.Qxb6625651aHas
import Derived.Test.Qxb6625651aDec
namespace Go.Proofs.Qxb6625651a
open Go.ChangeShapes Go.WideShapes Go.ChangeAt Go.RowKit
set_option linter.unusedVariables false

/-- What peNumeral answers. -/
def Numd (bits : Nat) (l : List Nat) (w : World) (e : Ending) (w' : World) : Prop :=
  e = .returned (.tuple #[.int .i64 (numRes bits l).1, .int .i64 ((numRes bits l).2.1 : Int), .bool (numRes bits l).2.2]) ∧ Same w w'

theorem lim_le (bits : Nat) (h : bits = 64 ∨ bits = 16) (ng : Bool) : lim bits ng ≤ 9223372036854775807 + (if ng then 1 else 0) := by
  rcases h with rfl | rfl <;> cases ng <;> decide
theorem isDig_lt (b : List Nat) (h : ∀ c ∈ b, isDig c = true) : ∀ x ∈ b, x < 256 := fun x hx => by
  have := h x hx
  simp [isDig] at this
  omega

set_option maxHeartbeats 8000000 in
set_option maxRecDepth 100000 in
theorem numeral_calls (bits : Nat) (hbits : bits = 64 ∨ bits = 16) (a : Option Addr) (n c : Nat) (l : List Nat) (off : Nat) (w : World) (hs : Suf w a n c l) (ho : off ≤ n) (hn : n ≤ 1048576) :
    Calls Try.prog 17 #[.slice a n c, .int .i64 (off : Int), .string (bs (maxP bits)), .string (bs (maxN bits))] w fun e w' => Numd bits (l.drop off) w e w' := by
  have hlen := hs.len
  have hcap := hs.cap
  have hcB := hs.capB
  have hrun := run_at l off (by omega)
  obtain ⟨dl, hdl⟩ : ∃ dl, dl = nds (l.drop off) := ⟨_, rfl⟩
  obtain ⟨ng, hng⟩ : ∃ ng, ng = neg (l.drop off) := ⟨_, rfl⟩
  obtain ⟨S, hS⟩ : ∃ S, S = off + (if ng then 1 else 0) := ⟨_, rfl⟩
  obtain ⟨K, hK⟩ : ∃ K, K = dl.length := ⟨_, rfl⟩
  have hbd := bnd_of bits hbits ng
  obtain ⟨P, hP⟩ : ∃ P, P = maxP bits := ⟨_, rfl⟩
  obtain ⟨N, hN⟩ : ∃ N, N = maxN bits := ⟨_, rfl⟩
  rw [← hP, ← hN] at hbd ⊢
  obtain ⟨bd, hbdd⟩ : ∃ bd, bd = if ng then N else P := ⟨_, rfl⟩
  rw [← hbdd] at hbd
  rw [← hdl, ← hng, ← hS] at hrun
  have hfit := hrun.fit
  rw [← hK] at hfit
  have hSo : off ≤ S := by omega
  have HDL : Hid (dl = nds (l.drop off)) := hdl
  have HNG : Hid (ng = neg (l.drop off)) := hng
  have HSD : Hid (S = off + (if ng then 1 else 0)) := hS
  have HK : Hid (K = dl.length) := hK
  have HBD : Hid (Bnd bd (lim bits ng)) := hbd
  have HBE : Hid (bd = if ng then N else P) := hbdd
  have HR : Hid (Run l S dl) := hrun
  have HS : Hid (Suf w a n c l) := hs
  have HLE : Hid (l.length = n) := hlen
  have hEn : S + K ≤ n := by omega
  have HBI : Hid (bits = 64 ∨ bits = 16) := hbits
  clear hbits
  clear hdl hng hS hK hP hN hbdd hbd hrun hs hlen hfit
  go_enter Try.func17, Try.ntmps17
  go_upto_region 3 with fail
  go_cut [31] from 20 (fun s31 wc => s31 = .bool ng ∧ w = wc)
  case first =>
    by_cases h0 : off = n
    · have hg : ng = false := by rw [HNG.out, h0, ← HLE.out, List.drop_length]; rfl
      subst hg
      have hg0 : decide ((off : Int) < (n : Int)) = false := decide_eq_false (by omega)
      have hno : n ≤ off := by omega
      clear h0
      go_wp2
      go_meet
      exact ⟨rfl, rfl⟩
    · obtain ⟨b, o, rfl, hblt, hcell⟩ := HS.out.cell (show 0 < n by omega)
      have hc0 := hcell off (by omega)
      have hg0 : decide ((off : Int) < (n : Int)) = true := decide_eq_true (by omega)
      have hd : ng = (((l.getD off 0 : Nat) : Int) == 45) := by
        rw [HNG.out]
        have hg := getD_drop l off 0
        rw [Nat.add_zero] at hg
        rw [← hg]
        have hl : (l.drop off).length = n - off := by rw [List.length_drop, HLE.out]
        cases hm : l.drop off with
        | nil => rw [hm] at hl; simp at hl; omega
        | cons d l => simp [neg]; rw [Bool.eq_iff_iff]; simp; omega
      have HG : Hid (ng = (((l.getD off 0 : Nat) : Int) == 45)) := hd
      clear hcell hd
      generalize l.getD off 0 = d at *
      go_wp2
      go_meet
      exact ⟨by rw [HG.out], rfl⟩
  obtain ⟨rfl, rfl⟩ := hcut
  go_upto_if 31 with fail
  go_cut [11, 12] from 20 (fun s11 s12 wc => s11 = .int .i64 (S : Int) ∧ s12 = .bool ng ∧ w = wc)
  case first =>
    cases ng with
    | true =>
      have hSS : S = off + 1 := HSD.out
      subst hSS
      go_wp2
      go_meet
      exact ⟨by congr 1, rfl, rfl⟩
    | false =>
      have hSS : S = off := HSD.out
      subst hSS
      go_wp2
      go_meet
      exact ⟨rfl, rfl, rfl⟩
  obtain ⟨rfl, rfl, rfl⟩ := hcut
  go_upto_block 0 with fail
  go_cut [11] from 20 (fun s11 wc => s11 = .int .i64 ((S : Int) + (K : Int)) ∧ w = wc)
  case first =>
    go_wp2_with fail
    go_loop [11] (fun i => ∃ k : Nat, k ≤ K ∧ i = .int .i64 ((S : Int) + (k : Int))) (fun i => S + K - (intOf i).toNat)
    case atStart => exact ⟨0, Nat.zero_le _, by simp⟩
    case round =>
      obtain ⟨k, hk, rfl⟩ := hrel
      by_cases hkn : S + k = n
      · have hst : Hid (k = K) := (show k = K by omega)
        have hg1 : decide ((S : Int) + (k : Int) < (n : Int)) = false := decide_eq_false (by omega)
        have hno : n ≤ S + k := by omega
        clear hkn
        go_wp2
        go_meet
        exact ⟨by rw [hst.out], rfl⟩
      · have hg1 : decide ((S : Int) + (k : Int) < (n : Int)) = true := decide_eq_true (by omega)
        obtain ⟨b, o, rfl, hblt, hcell⟩ := HS.out.cell (show 0 < n by omega)
        have hc0 := hcell (S + k) (by omega)
        have hby := getD_byte HS.out.byte (S + k)
        by_cases hkd : k < K
        · obtain ⟨hd1, h48, h57⟩ := HR.out.dig k (by rw [← HK.out]; exact hkd)
          rw [← hd1] at h48 h57
          clear hcell hd1
          generalize l.getD (S + k) 0 = d at *
          have hg3 : decide ((48 : Int) ≤ (d : Int)) = true := decide_eq_true (by omega)
          have hg4 : decide ((d : Int) ≤ 57) = true := decide_eq_true (by omega)
          go_wp2
          go_round
          case rel => exact ⟨k + 1, by omega, by rw [show ((k + 1 : Nat) : Int) = (k : Int) + 1 from rfl, Int.add_assoc]⟩
          case measure => simp [intOf]; omega
        · have hst : Hid (k = K) := (show k = K by omega)
          have hno := HR.out.stop (by rw [← HK.out, HLE.out]; omega)
          rw [← HK.out, ← hst.out] at hno
          clear hcell hkd
          generalize l.getD (S + k) 0 = d at *
          by_cases h48 : 48 ≤ d
          · have hg3 : decide ((48 : Int) ≤ (d : Int)) = true := decide_eq_true (by omega)
            have hg4 : decide ((d : Int) ≤ 57) = false := decide_eq_false (by omega)
            clear hno
            go_wp2
            go_meet
            exact ⟨by rw [hst.out], rfl⟩
          · have hg3 : decide ((48 : Int) ≤ (d : Int)) = false := decide_eq_false (by omega)
            clear hno
            go_wp2
            go_meet
            exact ⟨by rw [hst.out], rfl⟩
  obtain ⟨rfl, rfl⟩ := hcut
  go_upto_region 9 with fail
  go_cut [14] from 20 (fun s14 wc => s14 = .int .i64 (K : Int) ∧ w = wc)
  case first =>
    go_wp2
    go_meet
    exact ⟨by congr 1; omega, rfl⟩
  obtain ⟨rfl, rfl⟩ := hcut
  by_cases hK0 : K = 0
  · have hr := res_empty bits (l.drop off) (by rw [← HDL.out]; exact List.eq_nil_of_length_eq_zero (by rw [← HK.out]; exact hK0))
    have HN : Hid (Numd bits (l.drop off) w (.returned (.tuple #[.int .i64 0, .int .i64 0, .bool false])) w) := ⟨by rw [hr]; rfl, Same.refl w⟩
    subst hK0
    clear hr
    go_wp2
    go_ret3
    exact HN.out
  have hg0 : ((K : Int) == 0) = false := beq_eq_false_iff_ne.2 (by omega)
  have hKn : ¬ (K : Int) = 0 := by omega
  obtain ⟨ld, hld⟩ : ∃ ld, ld = (decide (1 < K) && decide (dl.getD 0 0 = 48)) := ⟨_, rfl⟩
  have HLD : Hid (ld = (decide (1 < K) && decide (dl.getD 0 0 = 48))) := hld
  clear hld
  go_upto_region 12 with fail
  go_cut [68] from 20 (fun s68 wc => s68 = .bool ld ∧ w = wc)
  case first =>
    obtain ⟨b, o, rfl, hblt, hcell⟩ := HS.out.cell (show 0 < n by omega)
    have hc0 := hcell S (by omega)
    have hd0 : l.getD S 0 = dl.getD 0 0 := by have := (HR.out.dig 0 (by rw [← HK.out]; omega)).1; rwa [Nat.add_zero] at this
    rw [hd0] at hc0
    by_cases h1 : 1 < K
    · have hg1 : decide ((1 : Int) < (K : Int)) = true := decide_eq_true (by omega)
      have he : Hid (ld = (((dl.getD 0 0 : Nat) : Int) == 48)) := by
        show ld = _
        rw [HLD.out, decide_eq_true h1, Bool.true_and, Bool.eq_iff_iff]
        simp
        omega
      clear hcell hd0
      generalize dl.getD 0 0 = d at *
      go_wp2
      go_meet
      exact ⟨by rw [he.out], rfl⟩
    · have hg1 : decide ((1 : Int) < (K : Int)) = false := decide_eq_false (by omega)
      have he : Hid (ld = false) := by
        show ld = _
        rw [HLD.out, decide_eq_false h1, Bool.false_and]
      clear hcell hd0
      go_wp2
      go_meet
      exact ⟨by rw [he.out], rfl⟩
  obtain ⟨rfl, rfl⟩ := hcut
  cases ld with
  | true =>
    have h2 := HLD.out.symm
    rw [Bool.and_eq_true, decide_eq_true_eq, decide_eq_true_eq] at h2
    have hr := res_lead bits (l.drop off) (by rw [← HDL.out, ← HK.out]; exact h2.1) (by rw [← HDL.out]; exact h2.2)
    have HN : Hid (Numd bits (l.drop off) w (.returned (.tuple #[.int .i64 0, .int .i64 0, .bool false])) w) := ⟨by rw [hr]; rfl, Same.refl w⟩
    clear hr h2
    go_wp2
    go_ret3
    exact HN.out
  | false =>
    have HLZ : Hid (1 < K → dl.getD 0 0 ≠ 48) := fun h1 h2 => by
      have := HLD.out
      rw [decide_eq_true h1, decide_eq_true h2] at this
      cases this
    clear HLD
    go_upto_if 70 with fail
    go_cut [15] from 20 (fun s15 wc => s15 = .string (bs bd) ∧ w = wc)
    case first =>
      cases ng with
      | true =>
        have hb : bd = N := HBE.out
        subst hb
        go_wp2
        go_meet
        exact ⟨rfl, rfl⟩
      | false =>
        have hb : bd = P := HBE.out
        subst hb
        go_wp2
        go_meet
        exact ⟨rfl, rfl⟩
    obtain ⟨rfl, rfl⟩ := hcut
    have hsz := bs_size bd
    have HDG : Hid (∀ x ∈ dl, isDig x = true) := by
      show ∀ x ∈ dl, _
      rw [HDL.out]
      exact nds_dig _
    by_cases hlong : bd.length < K
    · have hd := dval_shorter bd dl HBD.out.dig HDG.out (HLZ.out (by have := HBD.out.pos; omega)) (by rw [← HK.out]; exact hlong)
      rw [HBD.out.val] at hd
      have hr := res_big bits (l.drop off) (by rw [← HDL.out, ← HNG.out]; exact hd)
      have HN : Hid (Numd bits (l.drop off) w (.returned (.tuple #[.int .i64 0, .int .i64 0, .bool false])) w) := ⟨by rw [hr]; rfl, Same.refl w⟩
      clear hr hd
      go_wp2
      go_ret3
      exact HN.out
    have h19 := HBD.out.short
    go_upto_if 79 with fail
    go_cut [16] from 20 (fun s16 wc => Same w wc ∧ dval dl ≤ dval bd)
    case first =>
      by_cases hKe : K = bd.length
      · have hge : ((K : Int) == (bd.length : Int)) = true := by simp; omega
        have HKE : Hid (K = bd.length) := hKe
        have hKe1 : K ≤ bd.length := by omega
        have hKe2 : bd.length ≤ K := by omega
        clear hKe hlong
        go_wp2_with fail
        go_loopw [16] (fun i wr => ∃ k : Nat, k ≤ K ∧ i = .int .i64 k ∧ (∀ j, j < k → dl.getD j 0 = bd.getD j 0) ∧ Same w wr) (fun i _ => K - (intOf i).toNat)
        case atStart => exact ⟨0, Nat.zero_le _, rfl, fun j hj => by omega, Same.refl w⟩
        case round =>
          obtain ⟨k, hk, rfl, hag, hsm⟩ := hrel
          have HA : Hid (∀ j, j < k → dl.getD j 0 = bd.getD j 0) := hag
          clear hag
          by_cases hlt : k < K
          · obtain ⟨b, o, rfl, hblt, hcell⟩ := HS.out.cell (show 0 < n by omega)
            have hc0 := (hsm.cell _).trans (hcell (S + k) (by omega))
            have hix := run_index_bs bd (isDig_lt bd HBD.out.dig) k (by omega)
            have hkk : decide ((k : Int) < (K : Int)) = true := decide_eq_true (by omega)
            have hdk := (HR.out.dig k (by rw [← HK.out]; exact hlt)).1
            rw [hdk] at hc0
            clear hcell hdk
            by_cases hd : dl.getD k 0 = bd.getD k 0
            · have HD : Hid (dl.getD k 0 = bd.getD k 0) := hd
              rw [hd] at hc0
              obtain ⟨d, hdd⟩ : ∃ d, d = bd.getD k 0 := ⟨_, rfl⟩
              rw [← hdd] at hc0 hix
              clear hd hdd
              have hgd : ((d : Int) != (d : Int)) = false := by simp
              go_wp2_with fail
              go_quiet (fail)
              go_wp2
              go_roundw
              case rel => exact ⟨k + 1, by omega, by go_num, fun j hj => by
                rcases Nat.lt_or_ge j k with h1 | h1
                · exact HA.out j h1
                · rw [show j = k by omega]; exact HD.out, hsm.drewN _⟩
              case measure => simp [intOf]; omega
            · have hgd : ((dl.getD k 0 : Nat) : Int) ≠ ((bd.getD k 0 : Nat) : Int) := by omega
              by_cases hgt : bd.getD k 0 < dl.getD k 0
              · have hv := dval_diff bd dl HBD.out.dig HDG.out (by rw [← HKE.out, ← HK.out]) k (by rw [← HKE.out]; exact hlt) (fun j hj => (HA.out j hj).symm) hgt
                rw [HBD.out.val] at hv
                have hr := res_big bits (l.drop off) (by rw [← HDL.out, ← HNG.out]; exact hv)
                have HN : Hid (∀ q q', Numd bits (l.drop off) w (.returned (.tuple #[.int .i64 0, .int .i64 0, .bool false])) ((wr.drewN q).drewN q')) := fun q q' => ⟨by rw [hr]; rfl, (hsm.drewN q).drewN q'⟩
                clear hr hv hd
                generalize dl.getD k 0 = d' at *
                generalize bd.getD k 0 = d at *
                have hgd' : ((d' : Int) != (d : Int)) = true := by simp; omega
                have hgg : decide ((d : Int) < (d' : Int)) = true := decide_eq_true (by omega)
                clear hgd
                go_wp2_with fail
                go_quiet (fail)
                go_wp2_with fail
                go_quiet (fail)
                go_wp2
                go_ret3
                exact HN.out _ _
              · have hv := dval_diff dl bd HDG.out HBD.out.dig (by rw [← HKE.out, ← HK.out]) k (by rw [← HK.out]; exact hlt) (fun j hj => HA.out j hj) (by omega)
                have HV : Hid (dval dl ≤ dval bd) := Nat.le_of_lt hv
                clear hv hd
                generalize dl.getD k 0 = d' at *
                generalize bd.getD k 0 = d at *
                have hgd' : ((d' : Int) != (d : Int)) = true := by simp; omega
                have hgg : decide ((d : Int) < (d' : Int)) = false := decide_eq_false (by omega)
                clear hgd
                go_wp2_with fail
                go_quiet (fail)
                go_wp2_with fail
                go_quiet (fail)
                go_wp2
                go_meet
                exact ⟨(hsm.drewN _).drewN _, HV.out⟩
          · have hkk : decide ((k : Int) < (K : Int)) = false := decide_eq_false (by omega)
            have HV : Hid (dval dl ≤ dval bd) := Nat.le_of_eq (dval_same dl bd (by rw [← HKE.out, ← HK.out]) (fun j hj => HA.out j (by rw [← HK.out] at hj; omega)))
            go_wp2
            go_meet
            exact ⟨hsm, HV.out⟩
      · have hge : ((K : Int) == (bd.length : Int)) = false := beq_eq_false_iff_ne.2 (by omega)
        have HV : Hid (dval dl ≤ dval bd) := Nat.le_of_lt (dval_shorter dl bd HDG.out HBD.out.dig HBD.out.lead (by rw [← HK.out]; omega))
        go_wp2
        go_meet
        exact ⟨Same.refl w, HV.out⟩
    obtain ⟨hsm, hle⟩ := hcut
    rw [HBD.out.val] at hle
    have hL := lim_le bits HBI.out ng
    have hr := res_fine bits (l.drop off) (by rw [← HDL.out, ← HK.out]; omega) (by rw [← HDL.out, ← HK.out]; omega) (by rw [← HDL.out, ← HNG.out]; exact hle) (by rw [← HDL.out, ← HK.out]; exact HLZ.out)
    have hv : numVal (l.drop off) = if ng then -(dval dl : Int) else (dval dl : Int) := by unfold numVal; rw [← HNG.out, ← HDL.out]
    have hwd : (numWid (l.drop off) : Int) = (S : Int) + (K : Int) - (off : Int) := by
      unfold numWid
      rw [← HNG.out, ← HDL.out, ← HK.out]
      have := HSD.out
      omega
    have HN : Hid (Numd bits (l.drop off) w (.returned (.tuple #[.int .i64 (if ng then -(dval dl : Int) else (dval dl : Int)), .int .i64 ((S : Int) + (K : Int) - (off : Int)), .bool true])) wc) := ⟨by rw [hr]; show _ = Ending.returned (.tuple #[.int .i64 (numVal (l.drop off)), .int .i64 (numWid (l.drop off) : Int), .bool true]); rw [hv, hwd], hsm⟩
    have HLM : Hid (dval dl ≤ 9223372036854775807 + (if ng then 1 else 0)) := Nat.le_trans hle hL
    clear hr hv hwd hle hL h19 hlong hsz
    cases ng with
    | false =>
      have hLM : dval dl ≤ 9223372036854775807 := HLM.out
      have HLM' : Hid (dval dl ≤ 9223372036854775807) := hLM
      clear hLM
      go_wp2_with fail
      go_loop [17, 18, 19] (fun v k d => ∃ j : Nat, j ≤ K ∧ k = .int .i64 ((S : Int) + (j : Int)) ∧ v = .int .i64 (dval (dl.take j) : Int)) (fun v k d => S + K - (intOf k).toNat)
      case atStart => exact ⟨0, Nat.zero_le _, by simp, by simp [dval]⟩
      case round =>
        obtain ⟨j, hj, rfl, rfl⟩ := hrel
        by_cases hlt : j < K
        · obtain ⟨b, o, rfl, hblt, hcell⟩ := HS.out.cell (show 0 < n by omega)
          have hc0 := (hsm.cell _).trans (hcell (S + j) (by omega))
          obtain ⟨hdk, h48, h57⟩ := HR.out.dig j (by rw [← HK.out]; exact hlt)
          rw [hdk] at hc0
          have hnx := dval_take_succ dl j (by rw [← HK.out]; exact hlt)
          have hbig := dval_take_le dl (j + 1)
          rw [hnx] at hbig
          have hbb : 10 * dval (dl.take j) + (dl.getD j 0 - 48) ≤ 9223372036854775807 := Nat.le_trans hbig HLM'.out
          have HNX : Hid (dval (dl.take (j + 1)) = 10 * dval (dl.take j) + (dl.getD j 0 - 48)) := hnx
          have hg1 : decide ((S : Int) + (j : Int) < (S : Int) + (K : Int)) = true := decide_eq_true (by omega)
          clear hcell hdk hnx hbig
          generalize dl.getD j 0 = d at *
          generalize dval (dl.take j) = x at *
          have hb1 : (x : Int) * 10 + ((d : Int) - 48) ≤ 9223372036854775807 := by omega
          have hb2 : (x : Int) * 10 ≤ 9223372036854775807 := by omega
          clear hbb
          go_wp2
          go_round
          case rel => exact ⟨j + 1, by omega, by rw [show ((j + 1 : Nat) : Int) = (j : Int) + 1 from rfl, Int.add_assoc], by rw [HNX.out]; congr 1; omega⟩
          case measure => simp [intOf]; omega
        · have hje : j = K := by omega
          subst hje
          rw [show dl.take j = dl by rw [HK.out]; exact List.take_length]
          have hg1 : decide ((S : Int) + (j : Int) < (S : Int) + (j : Int)) = false := decide_eq_false (by omega)
          go_wp2
          go_ret3
          exact HN.out
    | true =>
      have hLM : dval dl ≤ 9223372036854775808 := HLM.out
      have HLM' : Hid (dval dl ≤ 9223372036854775808) := hLM
      clear hLM
      go_wp2_with fail
      go_loop [17, 18, 19] (fun v k d => ∃ j : Nat, j ≤ K ∧ k = .int .i64 ((S : Int) + (j : Int)) ∧ v = .int .i64 (-(dval (dl.take j) : Int))) (fun v k d => S + K - (intOf k).toNat)
      case atStart => exact ⟨0, Nat.zero_le _, by simp, by simp [dval]⟩
      case round =>
        obtain ⟨j, hj, rfl, rfl⟩ := hrel
        by_cases hlt : j < K
        · obtain ⟨b, o, rfl, hblt, hcell⟩ := HS.out.cell (show 0 < n by omega)
          have hc0 := (hsm.cell _).trans (hcell (S + j) (by omega))
          obtain ⟨hdk, h48, h57⟩ := HR.out.dig j (by rw [← HK.out]; exact hlt)
          rw [hdk] at hc0
          have hnx := dval_take_succ dl j (by rw [← HK.out]; exact hlt)
          have hbig := dval_take_le dl (j + 1)
          rw [hnx] at hbig
          have hbb : 10 * dval (dl.take j) + (dl.getD j 0 - 48) ≤ 9223372036854775808 := Nat.le_trans hbig HLM'.out
          have HNX : Hid (dval (dl.take (j + 1)) = 10 * dval (dl.take j) + (dl.getD j 0 - 48)) := hnx
          have hg1 : decide ((S : Int) + (j : Int) < (S : Int) + (K : Int)) = true := decide_eq_true (by omega)
          clear hcell hdk hnx hbig
          generalize dl.getD j 0 = d at *
          generalize dval (dl.take j) = x at *
          obtain ⟨y, hy⟩ : ∃ y : Int, y = -(x : Int) := ⟨_, rfl⟩
          have HY : Hid (y = -(x : Int)) := hy
          have hb1 : -9223372036854775808 ≤ y * 10 - ((d : Int) - 48) := by omega
          have hb2 : -9223372036854775808 ≤ y * 10 := by omega
          have hb3 : y ≤ 0 := by omega
          rw [← hy]
          clear hbb hy
          go_wp2
          go_round
          case rel => exact ⟨j + 1, by omega, by rw [show ((j + 1 : Nat) : Int) = (j : Int) + 1 from rfl, Int.add_assoc], by rw [HNX.out, HY.out]; congr 1; omega⟩
          case measure => simp [intOf]; omega
        · have hje : j = K := by omega
          subst hje
          rw [show dl.take j = dl by rw [HK.out]; exact List.take_length]
          have hg1 : decide ((S : Int) + (j : Int) < (S : Int) + (j : Int)) = false := decide_eq_false (by omega)
          go_wp2
          go_ret3
          exact HN.out
end Go.Proofs.Qxb6625651a
