/-
  The walk of the reader's integer.
-/
import Derived.Test.Qxb6625651aTake
import Derived.Test.Qxb6625651aDig
import Derived.Deep.CutBlock
namespace Go.Proofs.Qxb6625651a
open Go.ChangeShapes Go.WideShapes Go.ChangeAt Go.RowKit
set_option linter.unusedVariables false

/-- Where the reader's loop stands: k digits are read. -/
structure Mid (dl : List Nat) (D : Nat) (i u : Value) : Prop where
  ex : ∃ k x : Nat, k ≤ stopAt dl ∧ x < 2 ^ 64 ∧ (k ≤ 19 → x = dval (dl.take k)) ∧ i = .int .i64 ((D + k : Nat) : Int) ∧ u = .int .u64 (x : Int)
/-- .. and at its end. -/
structure Stop (dl : List Nat) (D : Nat) (w wc : World) (i u : Value) : Prop where
  ex : ∃ x : Nat, x < 2 ^ 64 ∧ (dl.length ≤ 19 → x = dval dl) ∧ i = .int .i64 ((D + stopAt dl : Nat) : Int) ∧ u = .int .u64 (x : Int) ∧ w = wc
theorem Stop.of {dl : List Nat} {D : Nat} {w : World} {i u : Value} (k x : Nat) (hk : k = stopAt dl) (hx : x < 2 ^ 64) (h : k ≤ 19 → x = dval (dl.take k)) (hi : i = .int .i64 ((D : Int) + (k : Int))) (hu : u = .int .u64 (x : Int)) : Stop dl D w w i u := by
  subst hk
  refine ⟨x, hx, fun hl => ?_, ?_, hu, rfl⟩
  · have hs : stopAt dl = dl.length := by unfold stopAt; omega
    rw [h (by omega), hs, List.take_length]
  · rw [hi]; congr 1

theorem integer_bad (bits : Nat) (l : List Nat) (f : Bool) (h : (!f && numOk bits l) = false) : integer bits l f = (0, l, true) := by unfold integer; rw [h]; rfl
theorem integer_good (bits : Nat) (l : List Nat) (h : numOk bits l = true) : integer bits l false = (numVal l, l.drop (numWid l), false) := by unfold integer; rw [h]; rfl
theorem numOk_eq (bits : Nat) (l dl : List Nat) (ng : Bool) (h1 : dl = nds l) (h2 : ng = neg l) : numOk bits l = (!dl.isEmpty && decide (dl.length ≤ 19) && decide (dval dl ≤ lim bits ng) && !(decide (1 < dl.length) && (dl.head? == some 48))) := by
  subst h1; subst h2; rfl

theorem wrap_neg (x : Nat) (h : x ≤ 9223372036854775808) : wrap64 (-wrap64 (x : Int)) = -(x : Int) := by
  unfold wrap64
  omega
theorem head_eq (dl : List Nat) (h : dl ≠ []) : (dl.head? == some 48) = decide (dl.getD 0 0 = 48) := by
  cases dl with
  | nil => exact absurd rfl h
  | cons d l => rw [Bool.eq_iff_iff]; simp
theorem integer_big (bits : Nat) (l dl : List Nat) (ng : Bool) (h1 : dl = nds l) (h2 : ng = neg l) (h : ¬ dval dl ≤ lim bits ng) : integer bits l false = (0, l, true) :=
  integer_bad _ _ _ (by rw [numOk_eq bits l dl ng h1 h2, decide_eq_false h]; simp)
theorem integer_lead (bits : Nat) (l dl : List Nat) (ng : Bool) (h1 : dl = nds l) (h2 : ng = neg l) (hl : 1 < dl.length) (h : dl.getD 0 0 = 48) : integer bits l false = (0, l, true) :=
  integer_bad _ _ _ (by rw [numOk_eq bits l dl ng h1 h2, head_eq dl (by intro h0; rw [h0] at hl; simp at hl), decide_eq_true h, decide_eq_true hl]; simp)
theorem integer_fine (bits : Nat) (l dl : List Nat) (ng : Bool) (D K x : Nat) (h1 : dl = nds l) (h2 : ng = neg l) (hD : D = if ng then 1 else 0) (hK : dl.length = K) (hx : x = dval dl) (h0 : K ≠ 0) (h19 : K ≤ 19) (hlim : x ≤ lim bits ng) (h : 1 < K → dl.getD 0 0 ≠ 48) :
    integer bits l false = ((if ng then -(x : Int) else (x : Int)), l.drop (D + K), false) := by
  have hne : dl ≠ [] := by intro h; rw [h] at hK; simp at hK; omega
  have he : dl.isEmpty = false := by simpa using hne
  have hz : (decide (1 < dl.length) && (dl.head? == some 48)) = false := by
    rw [head_eq dl hne]
    by_cases hk : 1 < dl.length
    · rw [decide_eq_false (h (by omega))]; simp
    · rw [decide_eq_false hk]; rfl
  rw [integer_good bits l (by rw [numOk_eq bits l dl ng h1 h2, he, hz, decide_eq_true (show dl.length ≤ 19 by omega), decide_eq_true (show dval dl ≤ lim bits ng by omega)]; rfl)]
  unfold numVal numWid
  rw [← h1, ← h2, hK, ← hx, ← hD]

set_option maxHeartbeats 4000000 in
set_option maxRecDepth 100000 in
theorem integer_calls (bits : Nat) (hb : bits = 64 ∨ bits = 16) (R : Nat) (a : Option Addr) (n c : Nat) (f : Bool) (l : List Nat) (w : World) (hr : Rdr w R a n c f) (hs : Suf w a n c l) (hap : Apart R a) :
    Calls Try.prog 20 #[.pointer (some ⟨R, 0, none⟩), .int .i64 (bits : Int)] w fun e w' =>
      e = .returned (.int .i64 (integer bits l f).1) ∧ Left R w w' (integer bits l f).2.1 (integer bits l f).2.2 := by
  have hrest := hr.rest
  have hfail := hr.failed
  have hcap := hs.cap
  have hcB := hs.capB
  have hrun := run_of l
  have hdig := nds_dig l
  obtain ⟨D, hD⟩ : ∃ D, D = (if neg l then 1 else 0) := ⟨_, rfl⟩
  obtain ⟨dl, hdl⟩ : ∃ dl, dl = nds l := ⟨_, rfl⟩
  obtain ⟨ng, hng⟩ : ∃ ng, ng = neg l := ⟨_, rfl⟩
  rw [← hD, ← hdl] at hrun
  rw [← hdl] at hdig
  rw [← hng] at hD
  have hfit := hrun.fit
  have hlen := hs.len
  have hD1 : D ≤ 1 := by rw [hD]; split <;> omega
  have HD : Hid (D = if ng then 1 else 0) := hD
  have HDL : Hid (dl = nds l) := hdl
  have HNG : Hid (ng = neg l) := hng
  have HR : Hid (Rdr w R a n c f) := hr
  have HS : Hid (Suf w a n c l) := hs
  have HB : Hid (bits = 64 ∨ bits = 16) := hb
  clear hD hdl hng hr
  go_enter Try.func20, Try.ntmps20
  go_upto_region 2 with fail
  go_cut [6] from 10 (fun s6 wc => s6 = .bool ng ∧ w = wc)
  case first =>
    by_cases h0 : n = 0
    · subst h0
      have hl0 : l = [] := List.eq_nil_of_length_eq_zero hlen
      have hg : ng = false := by rw [HNG.out, hl0]; rfl
      subst hg
      have hg0 : decide ((0 : Int) < ((0 : Nat) : Int)) = false := by decide
      clear hs hrun hdig
      go_wp2
      go_meet
      exact ⟨rfl, rfl⟩
    · obtain ⟨b, o, rfl, hblt, hcell⟩ := HS.out.cell (show 0 < n by omega)
      have hc0 := hcell 0 (by omega)
      rw [Nat.add_zero] at hc0
      have hg0 : decide ((0 : Int) < (n : Int)) = true := decide_eq_true (by omega)
      have hd : ng = (((l.getD 0 0 : Nat) : Int) == 45) := by
        rw [HNG.out]
        cases l with
        | nil => simp at hlen; omega
        | cons d l => simp [neg]; rw [Bool.eq_iff_iff]; simp; omega
      have HG : Hid (ng = (((l.getD 0 0 : Nat) : Int) == 45)) := hd
      clear hcell hs hrun hdig hd
      generalize l.getD 0 0 = d at *
      go_wp2
      go_meet
      exact ⟨by rw [HG.out], rfl⟩
  case rest =>
    obtain ⟨rfl, rfl⟩ := hcut
    go_upto_if 27 with fail
    go_cut [5] from 27 (fun s5 wc => s5 = .int .i64 (D : Int) ∧ w = wc)
    case first =>
      clear hs hrun hdig
      cases ng with
      | true =>
        have hD' : D = 1 := HD.out
        subst hD'
        go_wp2
        go_meet
        exact ⟨rfl, rfl⟩
      | false =>
        have hD' : D = 0 := HD.out
        subst hD'
        go_wp2
        go_meet
        exact ⟨rfl, rfl⟩
    case rest =>
      obtain ⟨rfl, rfl⟩ := hcut
      go_upto_block 0 with fail
      go_cut [5, 8] from 31 (fun s5 s8 wc => Stop dl D w wc s5 s8)
      case first =>
        have HRN : Hid (Run l D dl) := hrun
        have HDG : Hid (∀ c ∈ dl, isDig c = true) := hdig
        clear hrun hdig hs
        go_wp2_with fail
        go_loop [5, 8] (fun i u => Mid dl D i u) (fun i u => (D + 20 - (intOf i).toNat))
        case atStart => exact ⟨0, 0, Nat.zero_le _, by decide, fun _ => by simp [dval], rfl, rfl⟩
        case round =>
          obtain ⟨k, x, hk, hx, hxv, rfl, rfl⟩ := hrel
          have HX : Hid (k ≤ 19 → x = dval (dl.take k)) := hxv
          have HX2 : Hid (x < 2 ^ 64) := hx
          have hi64 : ((D + k : Nat) : Int) = (D : Int) + (k : Int) := by omega
          rw [hi64]
          clear hxv hx
          have hsa : stopAt dl ≤ dl.length ∧ stopAt dl ≤ 20 := by unfold stopAt; omega
          have hkb : k ≤ 20 := by omega
          by_cases hkn : D + k = n
          · have hst : Hid (k = stopAt dl) := (show k = stopAt dl by unfold stopAt at *; omega)
            have hg1 : decide ((D : Int) + (k : Int) < (n : Int)) = false := decide_eq_false (by omega)
            clear hkn hsa hk
            go_wp2
            go_meet
            exact Stop.of k x hst.out HX2.out HX.out rfl rfl
          · have hg1 : decide ((D : Int) + (k : Int) < (n : Int)) = true := decide_eq_true (by omega)
            by_cases hk20 : k = 20
            · have hst : Hid (k = stopAt dl) := (show k = stopAt dl by omega)
              have hg2 : decide ((D : Int) + (k : Int) - (D : Int) < 20) = false := decide_eq_false (by omega)
              have hk20b : 20 ≤ k := by omega
              clear hk20 hsa hk
              go_wp2
              go_meet
              exact Stop.of k x hst.out HX2.out HX.out rfl rfl
            · have hg2 : decide ((D : Int) + (k : Int) - (D : Int) < 20) = true := decide_eq_true (by omega)
              obtain ⟨b, o, rfl, hblt, hcell⟩ := HS.out.cell (show 0 < n by omega)
              have hc0 := hcell (D + k) (by omega)
              have hby := getD_byte HS.out.byte (D + k)
              by_cases hkd : k < dl.length
              · have hdg := HRN.out.dig k hkd
                rw [hdg.1] at hc0 hby
                obtain ⟨_, h48, h57⟩ := hdg
                have hxe := HX.out (by omega)
                have hlt := dval_take_lt dl HDG.out k
                have hp : 10 ^ k ≤ 10 ^ 19 := Nat.pow_le_pow_right (by decide) (by omega)
                have hx19 : x < 10000000000000000000 := by rw [hxe]; exact Nat.lt_of_lt_of_le hlt hp
                have hnext := dval_take_succ dl k hkd
                rw [← hxe] at hnext
                have HN : Hid (dval (dl.take (k + 1)) = 10 * x + (dl.getD k 0 - 48)) := hnext
                have HX19 : Hid (k + 1 ≤ 19 → x < 1000000000000000000) := fun h => by
                  have hp : 10 ^ k ≤ 10 ^ 18 := Nat.pow_le_pow_right (by decide) (by omega)
                  rw [hxe]; exact Nat.lt_of_lt_of_le hlt hp
                clear hnext hlt hp hxe hcell
                generalize dl.getD k 0 = d at *
                have hg3 : decide ((48 : Int) ≤ (d : Int)) = true := decide_eq_true (by omega)
                have hg4 : decide ((d : Int) ≤ 57) = true := decide_eq_true (by omega)
                go_wp2
                go_round
                case rel =>
                  have hkk : k + 1 ≤ stopAt dl := by unfold stopAt; omega
                  refine ⟨k + 1, ((10 * x) % 2 ^ 64 + (d - 48)) % 2 ^ 64, hkk, Nat.mod_lt _ (by decide), fun h => ?_, ?_, ?_⟩
                  · have h1 := HX19.out h
                    have h2 := HN.out
                    rw [h2]
                    omega
                  · rw [show ((D + (k + 1) : Nat) : Int) = (D : Int) + (k : Int) + 1 by omega]
                  · rw [IntKind.wrap_u64, IntKind.wrap_u64]
                    congr 1
                    omega
                case measure => simp [intOf]; omega
              · have hst : Hid (k = stopAt dl) := (show k = stopAt dl by unfold stopAt at *; omega)
                have hke : k = dl.length := by unfold stopAt at *; omega
                have hno := HRN.out.stop (by omega)
                rw [← hke] at hno
                have hltn : D + k < n := by omega
                clear hcell hke hsa hkd hk
                generalize l.getD (D + k) 0 = d at *
                by_cases h48 : 48 ≤ d
                · have hg3 : decide ((48 : Int) ≤ (d : Int)) = true := decide_eq_true (by omega)
                  have hg4 : decide ((d : Int) ≤ 57) = false := decide_eq_false (by omega)
                  clear hno
                  go_wp2
                  go_meet
                  exact Stop.of k x hst.out HX2.out HX.out rfl rfl
                · have hg3 : decide ((48 : Int) ≤ (d : Int)) = false := decide_eq_false (by omega)
                  clear hno
                  go_wp2
                  go_meet
                  exact Stop.of k x hst.out HX2.out HX.out rfl rfl
      case rest =>
        obtain ⟨x, hx, hxd, rfl, rfl, rfl⟩ := hcut
        obtain ⟨K, hK⟩ : ∃ K, K = stopAt dl := ⟨_, rfl⟩
        rw [← hK]
        have hi64 : ((D + K : Nat) : Int) = (D : Int) + (K : Int) := by omega
        rw [hi64]
        have hKl : K ≤ dl.length := by unfold stopAt at hK; omega
        have hK20 : K ≤ 20 := by unfold stopAt at hK; omega
        have hKe : K ≤ 19 → dl.length = K := by unfold stopAt at hK; omega
        have hKbig : K = 20 → 20 ≤ dl.length := by unfold stopAt at hK; omega
        have hok := fun bits => numOk_eq bits l dl ng HDL.out HNG.out
        have hfr1 := HR.out.free 1
        have hfr0 := HR.out.free 0
        have HF : Hid (Left R w (w.setCell ⟨R, 1, none⟩ (.bool true)) l true) := ⟨⟨a, n, c, HR.out.setFailed true, hs.keep ((Keep.refl R w).setCell 1 _) hap, hap⟩, (Keep.refl R w).setCell 1 _⟩
        have HX64 : Hid (x < 2 ^ 64) := hx
        have hx64 : x < 18446744073709551616 := hx
        have HAP : Hid (Apart R a) := hap
        have HRN : Hid (Run l D dl) := hrun
        clear hx hi64 hK hs hap hrun hdig hb
        cases f with
        | true =>
          have hI : integer bits l true = (0, l, true) := integer_bad _ _ _ rfl
          have HI : Hid (integer bits l true = (0, l, true)) := hI
          clear hI hok hxd hKe hKbig
          rcases HB.out with rfl | rfl
          all_goals
            cases ng
            all_goals
              go_wp2
              go_ret
              exact ⟨by rw [HI.out]; rfl, by rw [HI.out]; exact HF.out⟩
        | false =>
          by_cases h0 : K = 0
          · have hnil : dl = [] := List.eq_nil_of_length_eq_zero (by omega)
            have hI : integer bits l false = (0, l, true) := integer_bad _ _ _ (by rw [hok, hnil]; rfl)
            have HI : Hid (integer bits l false = (0, l, true)) := hI
            subst h0
            rw [show ((D : Int) + ((0 : Nat) : Int)) = (D : Int) by omega]
            clear hI hok hxd hKe hKbig hnil
            rcases HB.out with rfl | rfl
            all_goals
              cases ng
              all_goals
                go_wp2
                go_ret
                exact ⟨by rw [HI.out]; rfl, by rw [HI.out]; exact HF.out⟩
          · have hg1 : ((D : Int) + (K : Int) == (D : Int)) = false := beq_eq_false_iff_ne.2 (by omega)
            by_cases h20 : K = 20
            · have hI : integer bits l false = (0, l, true) := integer_bad _ _ _ (by rw [hok, decide_eq_false (show ¬ dl.length ≤ 19 by have := hKbig h20; omega)]; simp)
              have HI : Hid (integer bits l false = (0, l, true)) := hI
              have hg2 : decide ((19 : Int) < (D : Int) + (K : Int) - (D : Int)) = true := decide_eq_true (by omega)
              have hKg : 20 ≤ K := by omega
              clear hI hok hxd hKe hKbig h20
              rcases HB.out with rfl | rfl
              all_goals
                cases ng
                all_goals
                  go_wp2
                  go_ret
                  exact ⟨by rw [HI.out]; rfl, by rw [HI.out]; exact HF.out⟩
            · have hKK : dl.length = K := hKe (by omega)
              have HXX : Hid (x = dval dl) := hxd (by omega)
              have hg2 : decide ((19 : Int) < (D : Int) + (K : Int) - (D : Int)) = false := decide_eq_false (by omega)
              clear hxd hKe hKbig
              rcases HB.out with rfl | rfl
              · cases ng
                · have hL : lim 64 false = 9223372036854775807 := rfl
                  by_cases hxl : x ≤ 9223372036854775807
                  · have hg3 : decide ((9223372036854775807 : Int) < (x : Int)) = false := decide_eq_false (by omega)
                    obtain ⟨b, o, rfl, hblt, hcell⟩ := HS.out.cell (show 0 < n by omega)
                    have hbR : b ≠ R := HAP.out _ rfl
                    have hap' : ∀ o', Apart R (some ⟨b, o', none⟩) := fun o' x hx => by cases hx; exact hbR
                    have hc0 := hcell D (by omega)
                    have hd0 : l.getD D 0 = dl.getD 0 0 := by have := (HRN.out.dig 0 (by omega)).1; rwa [Nat.add_zero] at this
                    rw [hd0] at hc0
                    obtain ⟨d, hd⟩ : ∃ d, d = dl.getD 0 0 := ⟨_, rfl⟩
                    rw [← hd] at hc0
                    have HDD : Hid (d = dl.getD 0 0) := hd
                    clear hd hd0
                    by_cases h1 : 1 < K
                    · have hg4 : decide ((1 : Int) < (D : Int) + (K : Int) - (D : Int)) = true := decide_eq_true (by omega)
                      by_cases hz : d = 48
                      · have hI := integer_lead 64 l dl false HDL.out HNG.out (by omega) (by rw [← HDD.out]; exact hz)
                        have HI : Hid (integer 64 l false = (0, l, true)) := hI
                        subst hz
                        rw [show ((48 : Nat) : Int) = 48 from rfl] at hc0
                        clear hI hcell hok hap'
                        go_wp2
                        go_ret
                        exact ⟨by rw [HI.out]; rfl, by rw [HI.out]; exact HF.out⟩
                      · have hg5 : ((d : Int) == 48) = false := beq_eq_false_iff_ne.2 (by omega)
                        have hI := integer_fine 64 l dl false D K x HDL.out HNG.out HD.out hKK HXX.out h0 (by omega) (by rw [hL]; exact hxl) (fun _ => by rw [← HDD.out]; exact hz)
                        have HI : Hid (integer 64 l false = ((if false then -(x : Int) else (x : Int)), l.drop (D + K), false)) := hI
                        clear hI hcell hok
                        by_cases hcs : c = D + K
                        · have hd := (HS.out.drop (D + K) (by omega) (some ⟨b, o, none⟩) (by simp) (fun h => absurd h (by omega))).keep ((Keep.refl R w).setCell 0 (.slice (some ⟨b, o, none⟩) (n - (D + K)) (c - (D + K)))) (hap' o)
                          have hr' := HR.out.setRest (some ⟨b, o, none⟩) (n - (D + K)) (c - (D + K))
                          have HL : Hid (Left R w (w.setCell ⟨R, 0, none⟩ (.slice (some ⟨b, o, none⟩) (n - (D + K)) (c - (D + K)))) (l.drop (D + K)) false) := ⟨⟨_, _, _, hr', hd, hap' o⟩, (Keep.refl R w).setCell 0 _⟩
                          rw [show c - (D + K) = 0 by omega] at HL
                          clear hd hr'
                          go_wp2
                          go_ret
                          exact ⟨by rw [HI.out]; rfl, by rw [HI.out]; exact HL.out⟩
                        · have hd := (HS.out.drop (D + K) (by omega) (some ⟨b, o + (D + K), none⟩) (by simp) (fun _ => rfl)).keep ((Keep.refl R w).setCell 0 (.slice (some ⟨b, o + (D + K), none⟩) (n - (D + K)) (c - (D + K)))) (hap' _)
                          have hr' := HR.out.setRest (some ⟨b, o + (D + K), none⟩) (n - (D + K)) (c - (D + K))
                          have HL : Hid (Left R w (w.setCell ⟨R, 0, none⟩ (.slice (some ⟨b, o + (D + K), none⟩) (n - (D + K)) (c - (D + K)))) (l.drop (D + K)) false) := ⟨⟨_, _, _, hr', hd, hap' _⟩, (Keep.refl R w).setCell 0 _⟩
                          clear hd hr'
                          go_wp2
                          go_ret
                          exact ⟨by rw [HI.out]; rfl, by rw [HI.out]; exact HL.out⟩
                    · have hg4 : decide ((1 : Int) < (D : Int) + (K : Int) - (D : Int)) = false := decide_eq_false (by omega)
                      have hI := integer_fine 64 l dl false D K x HDL.out HNG.out HD.out hKK HXX.out h0 (by omega) (by rw [hL]; exact hxl) (fun h => absurd h h1)
                      have HI : Hid (integer 64 l false = ((if false then -(x : Int) else (x : Int)), l.drop (D + K), false)) := hI
                      clear hI hcell hok
                      by_cases hcs : c = D + K
                      · have hd := (HS.out.drop (D + K) (by omega) (some ⟨b, o, none⟩) (by simp) (fun h => absurd h (by omega))).keep ((Keep.refl R w).setCell 0 (.slice (some ⟨b, o, none⟩) (n - (D + K)) (c - (D + K)))) (hap' o)
                        have hr' := HR.out.setRest (some ⟨b, o, none⟩) (n - (D + K)) (c - (D + K))
                        have HL : Hid (Left R w (w.setCell ⟨R, 0, none⟩ (.slice (some ⟨b, o, none⟩) (n - (D + K)) (c - (D + K)))) (l.drop (D + K)) false) := ⟨⟨_, _, _, hr', hd, hap' o⟩, (Keep.refl R w).setCell 0 _⟩
                        rw [show c - (D + K) = 0 by omega] at HL
                        clear hd hr'
                        go_wp2
                        go_ret
                        exact ⟨by rw [HI.out]; rfl, by rw [HI.out]; exact HL.out⟩
                      · have hd := (HS.out.drop (D + K) (by omega) (some ⟨b, o + (D + K), none⟩) (by simp) (fun _ => rfl)).keep ((Keep.refl R w).setCell 0 (.slice (some ⟨b, o + (D + K), none⟩) (n - (D + K)) (c - (D + K)))) (hap' _)
                        have hr' := HR.out.setRest (some ⟨b, o + (D + K), none⟩) (n - (D + K)) (c - (D + K))
                        have HL : Hid (Left R w (w.setCell ⟨R, 0, none⟩ (.slice (some ⟨b, o + (D + K), none⟩) (n - (D + K)) (c - (D + K)))) (l.drop (D + K)) false) := ⟨⟨_, _, _, hr', hd, hap' _⟩, (Keep.refl R w).setCell 0 _⟩
                        clear hd hr'
                        go_wp2
                        go_ret
                        exact ⟨by rw [HI.out]; rfl, by rw [HI.out]; exact HL.out⟩
                  · have hI := integer_big 64 l dl false HDL.out HNG.out (by rw [hL, ← HXX.out]; exact hxl)
                    have HI : Hid (integer 64 l false = (0, l, true)) := hI
                    have hg3 : decide ((9223372036854775807 : Int) < (x : Int)) = true := decide_eq_true (by omega)
                    clear hI hok
                    go_wp2
                    go_ret
                    exact ⟨by rw [HI.out]; rfl, by rw [HI.out]; exact HF.out⟩
                · have hL : lim 64 true = 9223372036854775808 := rfl
                  by_cases hxl : x ≤ 9223372036854775808
                  · have hg3 : decide ((9223372036854775808 : Int) < (x : Int)) = false := decide_eq_false (by omega)
                    obtain ⟨b, o, rfl, hblt, hcell⟩ := HS.out.cell (show 0 < n by omega)
                    have hbR : b ≠ R := HAP.out _ rfl
                    have hap' : ∀ o', Apart R (some ⟨b, o', none⟩) := fun o' x hx => by cases hx; exact hbR
                    have hc0 := hcell D (by omega)
                    have hd0 : l.getD D 0 = dl.getD 0 0 := by have := (HRN.out.dig 0 (by omega)).1; rwa [Nat.add_zero] at this
                    rw [hd0] at hc0
                    obtain ⟨d, hd⟩ : ∃ d, d = dl.getD 0 0 := ⟨_, rfl⟩
                    rw [← hd] at hc0
                    have HDD : Hid (d = dl.getD 0 0) := hd
                    clear hd hd0
                    by_cases h1 : 1 < K
                    · have hg4 : decide ((1 : Int) < (D : Int) + (K : Int) - (D : Int)) = true := decide_eq_true (by omega)
                      by_cases hz : d = 48
                      · have hI := integer_lead 64 l dl true HDL.out HNG.out (by omega) (by rw [← HDD.out]; exact hz)
                        have HI : Hid (integer 64 l false = (0, l, true)) := hI
                        subst hz
                        rw [show ((48 : Nat) : Int) = 48 from rfl] at hc0
                        clear hI hcell hok hap'
                        go_wp2
                        go_ret
                        exact ⟨by rw [HI.out]; rfl, by rw [HI.out]; exact HF.out⟩
                      · have hg5 : ((d : Int) == 48) = false := beq_eq_false_iff_ne.2 (by omega)
                        have hI := integer_fine 64 l dl true D K x HDL.out HNG.out HD.out hKK HXX.out h0 (by omega) (by rw [hL]; exact hxl) (fun _ => by rw [← HDD.out]; exact hz)
                        have HI : Hid (integer 64 l false = ((if true then -(x : Int) else (x : Int)), l.drop (D + K), false)) := hI
                        clear hI hcell hok
                        by_cases hcs : c = D + K
                        · have hd := (HS.out.drop (D + K) (by omega) (some ⟨b, o, none⟩) (by simp) (fun h => absurd h (by omega))).keep ((Keep.refl R w).setCell 0 (.slice (some ⟨b, o, none⟩) (n - (D + K)) (c - (D + K)))) (hap' o)
                          have hr' := HR.out.setRest (some ⟨b, o, none⟩) (n - (D + K)) (c - (D + K))
                          have HL : Hid (Left R w (w.setCell ⟨R, 0, none⟩ (.slice (some ⟨b, o, none⟩) (n - (D + K)) (c - (D + K)))) (l.drop (D + K)) false) := ⟨⟨_, _, _, hr', hd, hap' o⟩, (Keep.refl R w).setCell 0 _⟩
                          rw [show c - (D + K) = 0 by omega] at HL
                          clear hd hr'
                          go_wp2
                          go_ret
                          exact ⟨by rw [HI.out]; exact congrArg (fun v => Ending.returned (Value.int .i64 v)) (wrap_neg x hxl), by rw [HI.out]; exact HL.out⟩
                        · have hd := (HS.out.drop (D + K) (by omega) (some ⟨b, o + (D + K), none⟩) (by simp) (fun _ => rfl)).keep ((Keep.refl R w).setCell 0 (.slice (some ⟨b, o + (D + K), none⟩) (n - (D + K)) (c - (D + K)))) (hap' _)
                          have hr' := HR.out.setRest (some ⟨b, o + (D + K), none⟩) (n - (D + K)) (c - (D + K))
                          have HL : Hid (Left R w (w.setCell ⟨R, 0, none⟩ (.slice (some ⟨b, o + (D + K), none⟩) (n - (D + K)) (c - (D + K)))) (l.drop (D + K)) false) := ⟨⟨_, _, _, hr', hd, hap' _⟩, (Keep.refl R w).setCell 0 _⟩
                          clear hd hr'
                          go_wp2
                          go_ret
                          exact ⟨by rw [HI.out]; exact congrArg (fun v => Ending.returned (Value.int .i64 v)) (wrap_neg x hxl), by rw [HI.out]; exact HL.out⟩
                    · have hg4 : decide ((1 : Int) < (D : Int) + (K : Int) - (D : Int)) = false := decide_eq_false (by omega)
                      have hI := integer_fine 64 l dl true D K x HDL.out HNG.out HD.out hKK HXX.out h0 (by omega) (by rw [hL]; exact hxl) (fun h => absurd h h1)
                      have HI : Hid (integer 64 l false = ((if true then -(x : Int) else (x : Int)), l.drop (D + K), false)) := hI
                      clear hI hcell hok
                      by_cases hcs : c = D + K
                      · have hd := (HS.out.drop (D + K) (by omega) (some ⟨b, o, none⟩) (by simp) (fun h => absurd h (by omega))).keep ((Keep.refl R w).setCell 0 (.slice (some ⟨b, o, none⟩) (n - (D + K)) (c - (D + K)))) (hap' o)
                        have hr' := HR.out.setRest (some ⟨b, o, none⟩) (n - (D + K)) (c - (D + K))
                        have HL : Hid (Left R w (w.setCell ⟨R, 0, none⟩ (.slice (some ⟨b, o, none⟩) (n - (D + K)) (c - (D + K)))) (l.drop (D + K)) false) := ⟨⟨_, _, _, hr', hd, hap' o⟩, (Keep.refl R w).setCell 0 _⟩
                        rw [show c - (D + K) = 0 by omega] at HL
                        clear hd hr'
                        go_wp2
                        go_ret
                        exact ⟨by rw [HI.out]; exact congrArg (fun v => Ending.returned (Value.int .i64 v)) (wrap_neg x hxl), by rw [HI.out]; exact HL.out⟩
                      · have hd := (HS.out.drop (D + K) (by omega) (some ⟨b, o + (D + K), none⟩) (by simp) (fun _ => rfl)).keep ((Keep.refl R w).setCell 0 (.slice (some ⟨b, o + (D + K), none⟩) (n - (D + K)) (c - (D + K)))) (hap' _)
                        have hr' := HR.out.setRest (some ⟨b, o + (D + K), none⟩) (n - (D + K)) (c - (D + K))
                        have HL : Hid (Left R w (w.setCell ⟨R, 0, none⟩ (.slice (some ⟨b, o + (D + K), none⟩) (n - (D + K)) (c - (D + K)))) (l.drop (D + K)) false) := ⟨⟨_, _, _, hr', hd, hap' _⟩, (Keep.refl R w).setCell 0 _⟩
                        clear hd hr'
                        go_wp2
                        go_ret
                        exact ⟨by rw [HI.out]; exact congrArg (fun v => Ending.returned (Value.int .i64 v)) (wrap_neg x hxl), by rw [HI.out]; exact HL.out⟩
                  · have hI := integer_big 64 l dl true HDL.out HNG.out (by rw [hL, ← HXX.out]; exact hxl)
                    have HI : Hid (integer 64 l false = (0, l, true)) := hI
                    have hg3 : decide ((9223372036854775808 : Int) < (x : Int)) = true := decide_eq_true (by omega)
                    clear hI hok
                    go_wp2
                    go_ret
                    exact ⟨by rw [HI.out]; rfl, by rw [HI.out]; exact HF.out⟩
              · cases ng
                · have hL : lim 16 false = 32767 := rfl
                  by_cases hxl : x ≤ 32767
                  · have hg3 : decide ((32767 : Int) < (x : Int)) = false := decide_eq_false (by omega)
                    obtain ⟨b, o, rfl, hblt, hcell⟩ := HS.out.cell (show 0 < n by omega)
                    have hbR : b ≠ R := HAP.out _ rfl
                    have hap' : ∀ o', Apart R (some ⟨b, o', none⟩) := fun o' x hx => by cases hx; exact hbR
                    have hc0 := hcell D (by omega)
                    have hd0 : l.getD D 0 = dl.getD 0 0 := by have := (HRN.out.dig 0 (by omega)).1; rwa [Nat.add_zero] at this
                    rw [hd0] at hc0
                    obtain ⟨d, hd⟩ : ∃ d, d = dl.getD 0 0 := ⟨_, rfl⟩
                    rw [← hd] at hc0
                    have HDD : Hid (d = dl.getD 0 0) := hd
                    clear hd hd0
                    by_cases h1 : 1 < K
                    · have hg4 : decide ((1 : Int) < (D : Int) + (K : Int) - (D : Int)) = true := decide_eq_true (by omega)
                      by_cases hz : d = 48
                      · have hI := integer_lead 16 l dl false HDL.out HNG.out (by omega) (by rw [← HDD.out]; exact hz)
                        have HI : Hid (integer 16 l false = (0, l, true)) := hI
                        subst hz
                        rw [show ((48 : Nat) : Int) = 48 from rfl] at hc0
                        clear hI hcell hok hap'
                        go_wp2
                        go_ret
                        exact ⟨by rw [HI.out]; rfl, by rw [HI.out]; exact HF.out⟩
                      · have hg5 : ((d : Int) == 48) = false := beq_eq_false_iff_ne.2 (by omega)
                        have hI := integer_fine 16 l dl false D K x HDL.out HNG.out HD.out hKK HXX.out h0 (by omega) (by rw [hL]; exact hxl) (fun _ => by rw [← HDD.out]; exact hz)
                        have HI : Hid (integer 16 l false = ((if false then -(x : Int) else (x : Int)), l.drop (D + K), false)) := hI
                        clear hI hcell hok
                        by_cases hcs : c = D + K
                        · have hd := (HS.out.drop (D + K) (by omega) (some ⟨b, o, none⟩) (by simp) (fun h => absurd h (by omega))).keep ((Keep.refl R w).setCell 0 (.slice (some ⟨b, o, none⟩) (n - (D + K)) (c - (D + K)))) (hap' o)
                          have hr' := HR.out.setRest (some ⟨b, o, none⟩) (n - (D + K)) (c - (D + K))
                          have HL : Hid (Left R w (w.setCell ⟨R, 0, none⟩ (.slice (some ⟨b, o, none⟩) (n - (D + K)) (c - (D + K)))) (l.drop (D + K)) false) := ⟨⟨_, _, _, hr', hd, hap' o⟩, (Keep.refl R w).setCell 0 _⟩
                          rw [show c - (D + K) = 0 by omega] at HL
                          clear hd hr'
                          go_wp2
                          go_ret
                          exact ⟨by rw [HI.out]; rfl, by rw [HI.out]; exact HL.out⟩
                        · have hd := (HS.out.drop (D + K) (by omega) (some ⟨b, o + (D + K), none⟩) (by simp) (fun _ => rfl)).keep ((Keep.refl R w).setCell 0 (.slice (some ⟨b, o + (D + K), none⟩) (n - (D + K)) (c - (D + K)))) (hap' _)
                          have hr' := HR.out.setRest (some ⟨b, o + (D + K), none⟩) (n - (D + K)) (c - (D + K))
                          have HL : Hid (Left R w (w.setCell ⟨R, 0, none⟩ (.slice (some ⟨b, o + (D + K), none⟩) (n - (D + K)) (c - (D + K)))) (l.drop (D + K)) false) := ⟨⟨_, _, _, hr', hd, hap' _⟩, (Keep.refl R w).setCell 0 _⟩
                          clear hd hr'
                          go_wp2
                          go_ret
                          exact ⟨by rw [HI.out]; rfl, by rw [HI.out]; exact HL.out⟩
                    · have hg4 : decide ((1 : Int) < (D : Int) + (K : Int) - (D : Int)) = false := decide_eq_false (by omega)
                      have hI := integer_fine 16 l dl false D K x HDL.out HNG.out HD.out hKK HXX.out h0 (by omega) (by rw [hL]; exact hxl) (fun h => absurd h h1)
                      have HI : Hid (integer 16 l false = ((if false then -(x : Int) else (x : Int)), l.drop (D + K), false)) := hI
                      clear hI hcell hok
                      by_cases hcs : c = D + K
                      · have hd := (HS.out.drop (D + K) (by omega) (some ⟨b, o, none⟩) (by simp) (fun h => absurd h (by omega))).keep ((Keep.refl R w).setCell 0 (.slice (some ⟨b, o, none⟩) (n - (D + K)) (c - (D + K)))) (hap' o)
                        have hr' := HR.out.setRest (some ⟨b, o, none⟩) (n - (D + K)) (c - (D + K))
                        have HL : Hid (Left R w (w.setCell ⟨R, 0, none⟩ (.slice (some ⟨b, o, none⟩) (n - (D + K)) (c - (D + K)))) (l.drop (D + K)) false) := ⟨⟨_, _, _, hr', hd, hap' o⟩, (Keep.refl R w).setCell 0 _⟩
                        rw [show c - (D + K) = 0 by omega] at HL
                        clear hd hr'
                        go_wp2
                        go_ret
                        exact ⟨by rw [HI.out]; rfl, by rw [HI.out]; exact HL.out⟩
                      · have hd := (HS.out.drop (D + K) (by omega) (some ⟨b, o + (D + K), none⟩) (by simp) (fun _ => rfl)).keep ((Keep.refl R w).setCell 0 (.slice (some ⟨b, o + (D + K), none⟩) (n - (D + K)) (c - (D + K)))) (hap' _)
                        have hr' := HR.out.setRest (some ⟨b, o + (D + K), none⟩) (n - (D + K)) (c - (D + K))
                        have HL : Hid (Left R w (w.setCell ⟨R, 0, none⟩ (.slice (some ⟨b, o + (D + K), none⟩) (n - (D + K)) (c - (D + K)))) (l.drop (D + K)) false) := ⟨⟨_, _, _, hr', hd, hap' _⟩, (Keep.refl R w).setCell 0 _⟩
                        clear hd hr'
                        go_wp2
                        go_ret
                        exact ⟨by rw [HI.out]; rfl, by rw [HI.out]; exact HL.out⟩
                  · have hI := integer_big 16 l dl false HDL.out HNG.out (by rw [hL, ← HXX.out]; exact hxl)
                    have HI : Hid (integer 16 l false = (0, l, true)) := hI
                    have hg3 : decide ((32767 : Int) < (x : Int)) = true := decide_eq_true (by omega)
                    clear hI hok
                    go_wp2
                    go_ret
                    exact ⟨by rw [HI.out]; rfl, by rw [HI.out]; exact HF.out⟩
                · have hL : lim 16 true = 32768 := rfl
                  by_cases hxl : x ≤ 32768
                  · have hg3 : decide ((32768 : Int) < (x : Int)) = false := decide_eq_false (by omega)
                    obtain ⟨b, o, rfl, hblt, hcell⟩ := HS.out.cell (show 0 < n by omega)
                    have hbR : b ≠ R := HAP.out _ rfl
                    have hap' : ∀ o', Apart R (some ⟨b, o', none⟩) := fun o' x hx => by cases hx; exact hbR
                    have hc0 := hcell D (by omega)
                    have hd0 : l.getD D 0 = dl.getD 0 0 := by have := (HRN.out.dig 0 (by omega)).1; rwa [Nat.add_zero] at this
                    rw [hd0] at hc0
                    obtain ⟨d, hd⟩ : ∃ d, d = dl.getD 0 0 := ⟨_, rfl⟩
                    rw [← hd] at hc0
                    have HDD : Hid (d = dl.getD 0 0) := hd
                    clear hd hd0
                    by_cases h1 : 1 < K
                    · have hg4 : decide ((1 : Int) < (D : Int) + (K : Int) - (D : Int)) = true := decide_eq_true (by omega)
                      by_cases hz : d = 48
                      · have hI := integer_lead 16 l dl true HDL.out HNG.out (by omega) (by rw [← HDD.out]; exact hz)
                        have HI : Hid (integer 16 l false = (0, l, true)) := hI
                        subst hz
                        rw [show ((48 : Nat) : Int) = 48 from rfl] at hc0
                        clear hI hcell hok hap'
                        go_wp2
                        go_ret
                        exact ⟨by rw [HI.out]; rfl, by rw [HI.out]; exact HF.out⟩
                      · have hg5 : ((d : Int) == 48) = false := beq_eq_false_iff_ne.2 (by omega)
                        have hI := integer_fine 16 l dl true D K x HDL.out HNG.out HD.out hKK HXX.out h0 (by omega) (by rw [hL]; exact hxl) (fun _ => by rw [← HDD.out]; exact hz)
                        have HI : Hid (integer 16 l false = ((if true then -(x : Int) else (x : Int)), l.drop (D + K), false)) := hI
                        clear hI hcell hok
                        by_cases hcs : c = D + K
                        · have hd := (HS.out.drop (D + K) (by omega) (some ⟨b, o, none⟩) (by simp) (fun h => absurd h (by omega))).keep ((Keep.refl R w).setCell 0 (.slice (some ⟨b, o, none⟩) (n - (D + K)) (c - (D + K)))) (hap' o)
                          have hr' := HR.out.setRest (some ⟨b, o, none⟩) (n - (D + K)) (c - (D + K))
                          have HL : Hid (Left R w (w.setCell ⟨R, 0, none⟩ (.slice (some ⟨b, o, none⟩) (n - (D + K)) (c - (D + K)))) (l.drop (D + K)) false) := ⟨⟨_, _, _, hr', hd, hap' o⟩, (Keep.refl R w).setCell 0 _⟩
                          rw [show c - (D + K) = 0 by omega] at HL
                          clear hd hr'
                          go_wp2
                          go_ret
                          exact ⟨by rw [HI.out]; rfl, by rw [HI.out]; exact HL.out⟩
                        · have hd := (HS.out.drop (D + K) (by omega) (some ⟨b, o + (D + K), none⟩) (by simp) (fun _ => rfl)).keep ((Keep.refl R w).setCell 0 (.slice (some ⟨b, o + (D + K), none⟩) (n - (D + K)) (c - (D + K)))) (hap' _)
                          have hr' := HR.out.setRest (some ⟨b, o + (D + K), none⟩) (n - (D + K)) (c - (D + K))
                          have HL : Hid (Left R w (w.setCell ⟨R, 0, none⟩ (.slice (some ⟨b, o + (D + K), none⟩) (n - (D + K)) (c - (D + K)))) (l.drop (D + K)) false) := ⟨⟨_, _, _, hr', hd, hap' _⟩, (Keep.refl R w).setCell 0 _⟩
                          clear hd hr'
                          go_wp2
                          go_ret
                          exact ⟨by rw [HI.out]; rfl, by rw [HI.out]; exact HL.out⟩
                    · have hg4 : decide ((1 : Int) < (D : Int) + (K : Int) - (D : Int)) = false := decide_eq_false (by omega)
                      have hI := integer_fine 16 l dl true D K x HDL.out HNG.out HD.out hKK HXX.out h0 (by omega) (by rw [hL]; exact hxl) (fun h => absurd h h1)
                      have HI : Hid (integer 16 l false = ((if true then -(x : Int) else (x : Int)), l.drop (D + K), false)) := hI
                      clear hI hcell hok
                      by_cases hcs : c = D + K
                      · have hd := (HS.out.drop (D + K) (by omega) (some ⟨b, o, none⟩) (by simp) (fun h => absurd h (by omega))).keep ((Keep.refl R w).setCell 0 (.slice (some ⟨b, o, none⟩) (n - (D + K)) (c - (D + K)))) (hap' o)
                        have hr' := HR.out.setRest (some ⟨b, o, none⟩) (n - (D + K)) (c - (D + K))
                        have HL : Hid (Left R w (w.setCell ⟨R, 0, none⟩ (.slice (some ⟨b, o, none⟩) (n - (D + K)) (c - (D + K)))) (l.drop (D + K)) false) := ⟨⟨_, _, _, hr', hd, hap' o⟩, (Keep.refl R w).setCell 0 _⟩
                        rw [show c - (D + K) = 0 by omega] at HL
                        clear hd hr'
                        go_wp2
                        go_ret
                        exact ⟨by rw [HI.out]; rfl, by rw [HI.out]; exact HL.out⟩
                      · have hd := (HS.out.drop (D + K) (by omega) (some ⟨b, o + (D + K), none⟩) (by simp) (fun _ => rfl)).keep ((Keep.refl R w).setCell 0 (.slice (some ⟨b, o + (D + K), none⟩) (n - (D + K)) (c - (D + K)))) (hap' _)
                        have hr' := HR.out.setRest (some ⟨b, o + (D + K), none⟩) (n - (D + K)) (c - (D + K))
                        have HL : Hid (Left R w (w.setCell ⟨R, 0, none⟩ (.slice (some ⟨b, o + (D + K), none⟩) (n - (D + K)) (c - (D + K)))) (l.drop (D + K)) false) := ⟨⟨_, _, _, hr', hd, hap' _⟩, (Keep.refl R w).setCell 0 _⟩
                        clear hd hr'
                        go_wp2
                        go_ret
                        exact ⟨by rw [HI.out]; rfl, by rw [HI.out]; exact HL.out⟩
                  · have hI := integer_big 16 l dl true HDL.out HNG.out (by rw [hL, ← HXX.out]; exact hxl)
                    have HI : Hid (integer 16 l false = (0, l, true)) := hI
                    have hg3 : decide ((32768 : Int) < (x : Int)) = true := decide_eq_true (by omega)
                    clear hI hok
                    go_wp2
                    go_ret
                    exact ⟨by rw [HI.out]; rfl, by rw [HI.out]; exact HF.out⟩
end Go.Proofs.Qxb6625651a
