/-
  The walk of the law FnEntropyNearestSixteenthBit.
-/
import Derived.Test.Qxb6625468aNear
namespace Go.Proofs.Qxb6625468a
open Go.ChangeShapes Go.WideShapes Go.ChangeAt Go.RowKit
set_option linter.unusedVariables false

theorem bytes5_calls (a b : Option Addr) (n c m d : Nat) (w : World) (hn : n ≤ 65536) (hm : m ≤ 65536) :
    Calls Try.prog 5 #[.slice a n c, .slice b m d] w fun e w' => e = .returned (.bool true) ∧ w = w' := by
  go_enter Try.func5, Try.ntmps5
  go_wp2
  go_ret
  exact ⟨rfl, rfl⟩
/-- It answers a bool. -/
def SomeBool (e : Ending) : Prop := ∃ b, e = .returned (.bool b)
theorem bytes5_any (a b : Option Addr) (n c m d : Nat) (w : World) (hn : n ≤ maxLen) (hm : m ≤ maxLen) :
    Calls Try.prog 5 #[.slice a n c, .slice b m d] w fun e w' => SomeBool e ∧ w = w' := by
  unfold maxLen at hn hm
  go_enter Try.func5, Try.ntmps5
  go_wp2
  all_goals (go_ret; exact ⟨⟨_, rfl⟩, rfl⟩)

set_option maxHeartbeats 8000000 in
set_option maxRecDepth 1000000 in
theorem near_main (a a1 : Option Addr) (n c m c1 : Nat) (fs cs : List Nat) (w : World) (hsrc : Src w a fs) (hsrc1 : SrcP w a1 cs) (hlen : fs.length = n) (hlen1 : cs.length = m) (hnm : n ≤ m) (hm : m ≤ 65536) (h32 : ∀ f ∈ fs, f < 2 ^ 32) :
    Calls Try.prog 3 #[.slice a n c, .slice a1 m c1] w fun e w' => e = .returned (.bool true) ∧ Below w.heap.size w w' := by
  have hmk := run_make32 n (by omega)
  have hmk1 := run_make32 m (by omega)
  have Hl : Hid (fs.length = n) := hlen
  have Hm : Hid (cs.length = m) := hlen1
  clear hlen hlen1
  go_enter Try.func3, Try.ntmps3
  go_wp2_with fail
  refine (bytes5_calls a a1 n c m c1 _ (by omega) (by omega)).mono ?_
  rintro e w1 ⟨rfl, rfl⟩
  go_upto_if 34 with fail
  go_cut [0] from 18 (fun s0 wc => ∃ fa bf cf, s0 = .slice fa n cf ∧ Row wc fa bf fs ∧ (fs = [] ∨ bf < wc.heap.size) ∧ Below w.heap.size w wc)
  case first =>
    rcases hsrc with ⟨rfl, hfs⟩ | ⟨x, rfl, hx⟩
    · go_wp2
      go_meet
      case rel => exact ⟨none, 0, c, rfl, Or.inl hfs, Or.inl hfs, Below.refl _ _⟩
    · have hcp := fun ty => run_copy32 (w.alloc (.cells (vals (zeros n)) 24)) ty w.heap.size x n c fs (zeros n) Hl.out (zeros_length n) (U32s.made w _) (fun j hj => Lib.cell?_alloc_some _ (hx j hj))
      go_wp2
      go_meet
      case rel => exact ⟨some ⟨w.heap.size, 0, none⟩, w.heap.size, n, rfl, Or.inr ⟨rfl, (U32s.made w _).copied fs⟩, Or.inr (by simp [World.setRow]), below_setRow ((Below.refl _ _).alloc (Nat.le_refl _) _) (Nat.le_refl _) _⟩
  case rest =>
    obtain ⟨fa, bf, cf, rfl, hrow, hbf, hbel⟩ := hcut
    clear hsrc hmk
    have hST := sum_take_le fs h32
    have hT49 : fs.sum < 2 ^ 49 := by
      have := hST fs.length
      rw [List.take_of_length_le (Nat.le_refl _), Hl.out] at this
      omega
    -- out, a copy of cost
    go_wp2_with fail
    have hO0 : U32s (wc.alloc (.cells (vals (zeros m)) 24)) wc.heap.size (cpA cs 0) := by rw [cpA_zero, Hm.out]; exact U32s.made wc _
    have hr2 := hrow.alloc (.cells (vals (zeros m)) 24)
    have hb2 : Below w.heap.size w (wc.alloc (.cells (vals (zeros m)) 24)) := hbel.alloc hbel.size _
    have hs2 : wc.heap.size < (wc.alloc (.cells (vals (zeros m)) 24)).heap.size := by simp
    have hOw : w.heap.size ≤ wc.heap.size := hbel.size
    have hbfO : fs = [] ∨ bf ≠ wc.heap.size := hbf.imp id (fun h => by omega)
    clear hrow hbel hbf hmk1
    generalize wc.alloc (.cells (vals (zeros m)) 24) = W at *
    generalize wc.heap.size = O at *
    go_loopw [7] (fun i wr => ∃ k : Nat, k ≤ m ∧ i = .int .i64 k ∧ U32s wr O (cpA cs k) ∧ Only O W wr) (fun i _ => m - (intOf i).toNat)
    case atStart => exact ⟨0, Nat.zero_le _, rfl, hO0, Only.refl _ _⟩
    case round =>
      obtain ⟨k, hk, rfl, hg, ho⟩ := hrel
      by_cases hlt : k < m
      · have hkl : k < cs.length := by rw [Hm.out]; omega
        rcases hsrc1 with hs1 | ⟨sb, so, rfl, hsb, hsc⟩
        · rw [hs1] at hkl; simp at hkl
        have hcell := ((hb2.trans (ho.below hOw)).cell (p := ⟨sb, so + k, none⟩) hsb).trans (hsc k hkl)
        have hgcell := hg.cell (show k < (cpA cs k).length by rw [cpA_len cs k (by omega)]; omega)
        have hgfree := hg.free k
        have hset := hg.set k (cs.getD k 0)
        have hon := ho.setCell k (.int .u32 ((cs.getD k 0 : Nat) : Int))
        rw [cpA_step cs k hkl] at hset
        generalize cs.getD k 0 = f at *
        generalize (cpA cs k).getD k 0 = old at *
        clear hg ho hr2 hO0 hkl hsc
        go_wp2
        go_roundw
        case rel => exact ⟨k + 1, by omega, by go_num, hset, hon⟩
        case measure => simp [intOf]; omega
      · have hkm : m = k := by omega
        subst hkm
        have hgg : U32s wr O cs := by
          have := cpA_end cs
          rw [Hm.out] at this
          rw [← this]
          exact hg
        have hr3 := hr2.only ho hbfO
        have hb3 : Below w.heap.size w wr := hb2.trans (ho.below hOw)
        clear hg ho hr2 hb2 hs2 hO0
        go_wp2_with fail
        refine (zzE fa bf cf O m n m fs cs _ Hl.out Hm.out hr3 hgg hbfO hnm (by omega) (by omega) h32).mono ?_
        rintro e w1 ⟨rfl, hOut, hOn⟩
        have hr4 := hr3.only hOn hbfO
        have hb4 : Below w.heap.size w w1 := hb3.trans (hOn.below hOw)
        clear hgg hr3 hb3 hOn hbfO hOw
        go_wp2_with fail
        go_loop [8, 9] (fun t i => ∃ k : Nat, k ≤ n ∧ i = .int .i64 k ∧ t = .int .u64 ((fs.take k).sum : Nat)) (fun _ i => n - (intOf i).toNat)
        case atStart => exact ⟨0, Nat.zero_le _, rfl, rfl⟩
        case round =>
          obtain ⟨k, hk, rfl, rfl⟩ := hrel
          by_cases hlt : k < n
          · have hkl : k < fs.length := by rw [Hl.out]; omega
            rcases hr4 with hr4 | ⟨rfl, hr4⟩
            · rw [hr4] at hkl; simp at hkl
            have hcell := hr4.cell hkl
            have hs := hST k
            have HS : Hid ((fs.take (k + 1)).sum = (fs.take k).sum + fs.getD k 0) := sum_take_succ fs k hkl
            have hfk : fs.getD k 0 < 2 ^ 32 := by
              rw [show fs.getD k 0 = fs[k] by simp [hkl]]; exact h32 _ (List.getElem_mem hkl)
            generalize (fs.take k).sum = S at *
            generalize fs.getD k 0 = f at *
            clear hST hr4 hkl hOut
            go_wp2
            go_round
            case rel => exact ⟨k + 1, by omega, by go_num, by rw [HS.out]; go_num⟩
            case measure => simp [intOf]; omega
          · have hkn : n = k := by omega
            subst hkn
            have hT : (fs.take n).sum = fs.sum := by rw [List.take_of_length_le (by rw [Hl.out]; exact Nat.le_refl _)]
            rw [hT]
            clear hT hST
            obtain ⟨T, hTT⟩ : ∃ T, T = fs.sum := ⟨_, rfl⟩
            rw [← hTT] at hOut hT49 ⊢
            clear hTT
            go_wp2_with fail
            refine (from_calls T (by omega) _).mono ?_
            rintro e w2 ⟨xa, xn, xc, xl, rfl, hxb, hxv, hxn, hxB⟩
            go_wp2_with fail
            refine (pow32_calls xa xn xc xl _ hxb hxn).mono ?_
            rintro e w3 ⟨ta, tn, tc, tl, rfl, htb, htv, htn, htB⟩
            rw [hxv] at htv
            go_wp2_with fail
            have hfm : ∀ w, Calls Try.prog 8 #[.int .u64 524289] w fun e w' => GivesBn w 524289 2 e w' := fun w => from_calls 524289 (by decide) w
            refine (hfm _).mono ?_
            clear hfm
            rintro e w4 ⟨ma, mn, mc, ml, rfl, hmb, hmv, hmn, hmB⟩
            have hSt0 : St w w4 O (costs T fs ++ cs.drop n) fa bf fs ta tn tc tl ma mn mc ml :=
              ⟨((hOut.below hxB hOut.lt).below htB (hOut.below hxB hOut.lt).lt).below hmB ((hOut.below hxB hOut.lt).below htB (hOut.below hxB hOut.lt).lt).lt, ((hr4.below hxB).below htB).below hmB, htb.below hmB, hmb,
                ((hb4.trans (hxB.mono hb4.size)).trans (htB.mono (Nat.le_trans hb4.size hxB.size))).trans (hmB.mono (Nat.le_trans (Nat.le_trans hb4.size hxB.size) htB.size))⟩
            have HTV : Hid (bnv tl = T ^ 32) := htv
            have HMV : Hid (bnv ml = 524289) := hmv
            clear hOut hr4 hb4 hxb hxv hxn hxB htb htB hmb hmB htv hmv
            go_wp2_with fail
            go_loopw [12] (fun i wr => ∃ k : Nat, k ≤ n ∧ i = .int .i64 k ∧ St w wr O (costs T fs ++ cs.drop n) fa bf fs ta tn tc tl ma mn mc ml) (fun i _ => n - (intOf i).toNat)
            case atStart => exact ⟨0, Nat.zero_le _, rfl, hSt0⟩
            case round =>
              clear hSt0
              obtain ⟨k, hk, rfl, hSt⟩ := hrel
              by_cases hlt : k < n
              · have hkl : k < fs.length := by rw [Hl.out]; omega
                rcases hSt.row with hr | ⟨rfl, hr⟩
                · rw [hr] at hkl; simp at hkl
                have hcell := hr.cell hkl
                have hOc := hSt.out.cell (show k < (costs T fs ++ cs.drop n).length by rw [List.length_append, costs_length]; omega)
                have hOe : (costs T fs ++ cs.drop n).getD k 0 = Fl.cost T (max (fs.getD k 0) 1) := by
                  rw [← costs_getD T fs k hkl, List.getD_eq_getElem?_getD, List.getElem?_append_left (by rw [costs_length]; exact hkl), ← List.getD_eq_getElem?_getD]
                rw [hOe] at hOc
                have hfk : fs.getD k 0 < 2 ^ 32 := by
                  rw [show fs.getD k 0 = fs[k] by simp [hkl]]; exact h32 _ (List.getElem_mem hkl)
                have hkm : (k : Int) < (m : Int) := by omega
                clear hOe hr hkl
                generalize fs.getD k 0 = f at *
                by_cases hf0 : f = 0
                · subst hf0
                  rw [show max 0 1 = 1 from rfl] at hOc
                  rw [show ((0 : Nat) : Int) = 0 from rfl] at hcell
                  by_cases hlo : T ≤ 2 * 1
                  · have hc16 := cost_low T 1 hT49 (by omega) (by omega) hlo
                    rw [hc16] at hOc
                    rw [show ((16 : Nat) : Int) = 16 from rfl] at hOc
                    have HS : Hid (St w wr O (costs T fs ++ cs.drop n) (some ⟨bf, 0, none⟩) bf fs ta tn tc tl ma mn mc ml) := hSt
                    clear hSt hc16
                    go_wp2
                    go_roundw
                    case rel => exact ⟨k + 1, by omega, by go_num, HS.out⟩
                    case measure => simp [intOf]; omega
                  · by_cases hhi : 1 * 32768 ≤ T
                    · have hc240 := cost_high T 1 hT49 (by omega) (by omega) hhi
                      rw [hc240] at hOc
                      rw [show ((240 : Nat) : Int) = 240 from rfl] at hOc
                      have HS : Hid (St w wr O (costs T fs ++ cs.drop n) (some ⟨bf, 0, none⟩) bf fs ta tn tc tl ma mn mc ml) := hSt
                      clear hSt hc240
                      go_wp2
                      go_roundw
                      case rel => exact ⟨k + 1, by omega, by go_num, HS.out⟩
                      case measure => simp [intOf]; omega
                    · have hcm := Fl.cost_main T 1 hT49 (by omega) (by omega)
                      have hca := hcm.1
                      have hcb := hcm.2.1
                      clear hcm
                      obtain ⟨c, hce⟩ : ∃ c, c = Fl.cost T 1 := ⟨_, rfl⟩
                      rw [← hce] at hOc hca hcb
                      have HC : Hid (c = Fl.cost T 1) := hce
                      clear hce
                      go_wp2_with fail
                      have hfr : ∀ w, Calls Try.prog 8 #[.int .u64 1] w fun e w' => GivesBn w 1 2 e w' := fun w => from_calls 1 (by omega) w
                      refine (hfr _).mono ?_
                      clear hfr
                      rintro e w2 ⟨ya, yn, yc, yl, rfl, hyb, hyv, hyn, hyB⟩
                      have hS2 := hSt.below hyB
                      clear hSt hyB hcell hOc
                      go_wp2_with fail
                      refine (pow32_calls ya yn yc yl _ hyb hyn).mono ?_
                      rintro e w3 ⟨pa, pn, pc, pl, rfl, hpb, hpv, hpn, hpB⟩
                      have hS3 := hS2.below hpB
                      rw [hyv] at hpv
                      have PV : Hid (bnv pl = 1 ^ 32) := hpv
                      clear hS2 hpB hyb hyv hyn hpv
                      go_wp2_with fail
                      refine (mul_calls ta ma tn tc mn mc tl ml _ hS3.tp hS3.m (by omega) (by omega)).mono ?_
                      rintro e w4 ⟨qa, qn, qc, ql, rfl, hqb, hqv, hqn, hqB⟩
                      have hS4 := hS3.below hqB
                      have hpb4 := hpb.below hqB
                      have QV : Hid (bnv ql = bnv tl * bnv ml) := hqv
                      clear hS3 hqB hpb hqv
                      have hsh := shl_calls pa pn pc pl (2 * c + 18) w4 hpb4 (by omega) (by omega)
                      rw [show ((2 * c + 18 : Nat) : Int) = 2 * (c : Int) + 18 by omega] at hsh
                      go_wp2_with fail
                      refine hsh.mono ?_
                      clear hsh
                      rintro e w5 ⟨ra, rn, rc, rl, rfl, hrb, hrv, hrn, hrB⟩
                      have hS5 := hS4.below hrB
                      have hpb5 := hpb4.below hrB
                      have hqb5 := hqb.below hrB
                      have RV : Hid (bnv rl = bnv pl * 2 ^ (2 * c + 18)) := hrv
                      clear hS4 hrB hpb4 hqb hrv
                      go_wp2_with fail
                      refine (cmp_calls qa ra qn qc rn rc ql rl _ hqb5 hrb).mono ?_
                      rintro e w6 ⟨⟨sg, rfl, hs1, hs2⟩, hsB⟩
                      have hS6 := hS5.below hsB
                      have hpb6 := hpb5.below hsB
                      have hns : ¬ sg < 0 := by
                        intro h
                        have h1 := hs1 h
                        rw [QV.out, RV.out, HTV.out, HMV.out, PV.out] at h1
                        have IA : 1 ^ 32 * 2 ^ (2 * Fl.cost T 1 + 18) ≤ T ^ 32 * 524289 := ineqA T 1 hT49 (by omega) (by omega) (by omega)
                        rw [← HC.out] at IA
                        exact absurd h1 (Nat.not_lt.2 IA)
                      clear hS5 hsB hpb5 hqb5 hrb hs1 hs2 QV RV hqn hrn
                      have hsh := shl_calls ta tn tc tl 19 w6 hS6.tp (by omega) (by omega)
                      rw [show ((19 : Nat) : Int) = 19 from rfl] at hsh
                      go_wp2_with fail
                      refine hsh.mono ?_
                      clear hsh
                      rintro e w7 ⟨qa, qn, qc, ql, rfl, hqb, hqv, hqn, hqB⟩
                      have hS7 := hS6.below hqB
                      have hpb7 := hpb6.below hqB
                      have QV2 : Hid (bnv ql = bnv tl * 2 ^ 19) := hqv
                      clear hS6 hqB hpb6 hqv
                      go_wp2_with fail
                      refine (mul_calls pa ma pn pc mn mc pl ml _ hpb7 hS7.m (by omega) (by omega)).mono ?_
                      rintro e w8 ⟨ra, rn, rc, rl, rfl, hrb, hrv, hrn, hrB⟩
                      have hS8 := hS7.below hrB
                      have hqb8 := hqb.below hrB
                      have RV2 : Hid (bnv rl = bnv pl * bnv ml) := hrv
                      clear hS7 hrB hpb7 hqb hrv
                      have hsh := shl_calls ra rn rc rl (2 * c + 1) w8 hrb (by omega) (by omega)
                      rw [show ((2 * c + 1 : Nat) : Int) = 2 * (c : Int) + 1 by omega] at hsh
                      go_wp2_with fail
                      refine hsh.mono ?_
                      clear hsh
                      rintro e w9 ⟨va, vn, vc, vl, rfl, hvb, hvv, hvn, hvB⟩
                      have hS9 := hS8.below hvB
                      have hqb9 := hqb8.below hvB
                      have VV : Hid (bnv vl = bnv rl * 2 ^ (2 * c + 1)) := hvv
                      clear hS8 hvB hqb8 hrb hvv
                      go_wp2_with fail
                      refine (cmp_calls qa va qn qc vn vc ql vl _ hqb9 hvb).mono ?_
                      rintro e w10 ⟨⟨sh, rfl, hs1, hs2⟩, hsB⟩
                      have hS10 := hS9.below hsB
                      have hns2 : ¬ 0 < sh := by
                        intro h
                        have h1 := hs2 h
                        rw [QV2.out, VV.out, RV2.out, HTV.out, HMV.out, PV.out] at h1
                        have IB : T ^ 32 * 2 ^ 19 ≤ 1 ^ 32 * 524289 * 2 ^ (2 * Fl.cost T 1 + 1) := ineqB T 1 hT49 (by omega) (by omega) (by omega)
                        rw [← HC.out] at IB
                        exact absurd h1 (Nat.not_lt.2 IB)
                      clear hS9 hsB hqb9 hvb hs1 hs2 QV2 VV RV2 hqn hrn hvn
                      go_wp2
                      go_roundw
                      case rel => exact ⟨k + 1, by omega, by go_num, hS10⟩
                      case measure => simp [intOf]; omega
                · rw [show max f 1 = f by omega] at hOc
                  have hfz : ((f : Int) == 0) = false := beq_eq_false_iff_ne.2 (by omega)
                  by_cases hlo : T ≤ 2 * f
                  · have hc16 := cost_low T f hT49 (by omega) (by omega) hlo
                    rw [hc16] at hOc
                    rw [show ((16 : Nat) : Int) = 16 from rfl] at hOc
                    have HS : Hid (St w wr O (costs T fs ++ cs.drop n) (some ⟨bf, 0, none⟩) bf fs ta tn tc tl ma mn mc ml) := hSt
                    clear hSt hc16
                    go_wp2
                    go_roundw
                    case rel => exact ⟨k + 1, by omega, by go_num, HS.out⟩
                    case measure => simp [intOf]; omega
                  · by_cases hhi : f * 32768 ≤ T
                    · have hc240 := cost_high T f hT49 (by omega) (by omega) hhi
                      rw [hc240] at hOc
                      rw [show ((240 : Nat) : Int) = 240 from rfl] at hOc
                      have HS : Hid (St w wr O (costs T fs ++ cs.drop n) (some ⟨bf, 0, none⟩) bf fs ta tn tc tl ma mn mc ml) := hSt
                      clear hSt hc240
                      go_wp2
                      go_roundw
                      case rel => exact ⟨k + 1, by omega, by go_num, HS.out⟩
                      case measure => simp [intOf]; omega
                    · have hcm := Fl.cost_main T f hT49 (by omega) (by omega)
                      have hca := hcm.1
                      have hcb := hcm.2.1
                      clear hcm
                      obtain ⟨c, hce⟩ : ∃ c, c = Fl.cost T f := ⟨_, rfl⟩
                      rw [← hce] at hOc hca hcb
                      have HC : Hid (c = Fl.cost T f) := hce
                      clear hce
                      go_wp2_with fail
                      have hfr : ∀ w, Calls Try.prog 8 #[.int .u64 (f : Int)] w fun e w' => GivesBn w f 2 e w' := fun w => from_calls f (by omega) w
                      refine (hfr _).mono ?_
                      clear hfr
                      rintro e w2 ⟨ya, yn, yc, yl, rfl, hyb, hyv, hyn, hyB⟩
                      have hS2 := hSt.below hyB
                      clear hSt hyB hcell hOc
                      go_wp2_with fail
                      refine (pow32_calls ya yn yc yl _ hyb hyn).mono ?_
                      rintro e w3 ⟨pa, pn, pc, pl, rfl, hpb, hpv, hpn, hpB⟩
                      have hS3 := hS2.below hpB
                      rw [hyv] at hpv
                      have PV : Hid (bnv pl = f ^ 32) := hpv
                      clear hS2 hpB hyb hyv hyn hpv
                      go_wp2_with fail
                      refine (mul_calls ta ma tn tc mn mc tl ml _ hS3.tp hS3.m (by omega) (by omega)).mono ?_
                      rintro e w4 ⟨qa, qn, qc, ql, rfl, hqb, hqv, hqn, hqB⟩
                      have hS4 := hS3.below hqB
                      have hpb4 := hpb.below hqB
                      have QV : Hid (bnv ql = bnv tl * bnv ml) := hqv
                      clear hS3 hqB hpb hqv
                      have hsh := shl_calls pa pn pc pl (2 * c + 18) w4 hpb4 (by omega) (by omega)
                      rw [show ((2 * c + 18 : Nat) : Int) = 2 * (c : Int) + 18 by omega] at hsh
                      go_wp2_with fail
                      refine hsh.mono ?_
                      clear hsh
                      rintro e w5 ⟨ra, rn, rc, rl, rfl, hrb, hrv, hrn, hrB⟩
                      have hS5 := hS4.below hrB
                      have hpb5 := hpb4.below hrB
                      have hqb5 := hqb.below hrB
                      have RV : Hid (bnv rl = bnv pl * 2 ^ (2 * c + 18)) := hrv
                      clear hS4 hrB hpb4 hqb hrv
                      go_wp2_with fail
                      refine (cmp_calls qa ra qn qc rn rc ql rl _ hqb5 hrb).mono ?_
                      rintro e w6 ⟨⟨sg, rfl, hs1, hs2⟩, hsB⟩
                      have hS6 := hS5.below hsB
                      have hpb6 := hpb5.below hsB
                      have hns : ¬ sg < 0 := by
                        intro h
                        have h1 := hs1 h
                        rw [QV.out, RV.out, HTV.out, HMV.out, PV.out] at h1
                        have IA : f ^ 32 * 2 ^ (2 * Fl.cost T f + 18) ≤ T ^ 32 * 524289 := ineqA T f hT49 (by omega) (by omega) (by omega)
                        rw [← HC.out] at IA
                        exact absurd h1 (Nat.not_lt.2 IA)
                      clear hS5 hsB hpb5 hqb5 hrb hs1 hs2 QV RV hqn hrn
                      have hsh := shl_calls ta tn tc tl 19 w6 hS6.tp (by omega) (by omega)
                      rw [show ((19 : Nat) : Int) = 19 from rfl] at hsh
                      go_wp2_with fail
                      refine hsh.mono ?_
                      clear hsh
                      rintro e w7 ⟨qa, qn, qc, ql, rfl, hqb, hqv, hqn, hqB⟩
                      have hS7 := hS6.below hqB
                      have hpb7 := hpb6.below hqB
                      have QV2 : Hid (bnv ql = bnv tl * 2 ^ 19) := hqv
                      clear hS6 hqB hpb6 hqv
                      go_wp2_with fail
                      refine (mul_calls pa ma pn pc mn mc pl ml _ hpb7 hS7.m (by omega) (by omega)).mono ?_
                      rintro e w8 ⟨ra, rn, rc, rl, rfl, hrb, hrv, hrn, hrB⟩
                      have hS8 := hS7.below hrB
                      have hqb8 := hqb.below hrB
                      have RV2 : Hid (bnv rl = bnv pl * bnv ml) := hrv
                      clear hS7 hrB hpb7 hqb hrv
                      have hsh := shl_calls ra rn rc rl (2 * c + 1) w8 hrb (by omega) (by omega)
                      rw [show ((2 * c + 1 : Nat) : Int) = 2 * (c : Int) + 1 by omega] at hsh
                      go_wp2_with fail
                      refine hsh.mono ?_
                      clear hsh
                      rintro e w9 ⟨va, vn, vc, vl, rfl, hvb, hvv, hvn, hvB⟩
                      have hS9 := hS8.below hvB
                      have hqb9 := hqb8.below hvB
                      have VV : Hid (bnv vl = bnv rl * 2 ^ (2 * c + 1)) := hvv
                      clear hS8 hvB hqb8 hrb hvv
                      go_wp2_with fail
                      refine (cmp_calls qa va qn qc vn vc ql vl _ hqb9 hvb).mono ?_
                      rintro e w10 ⟨⟨sh, rfl, hs1, hs2⟩, hsB⟩
                      have hS10 := hS9.below hsB
                      have hns2 : ¬ 0 < sh := by
                        intro h
                        have h1 := hs2 h
                        rw [QV2.out, VV.out, RV2.out, HTV.out, HMV.out, PV.out] at h1
                        have IB : T ^ 32 * 2 ^ 19 ≤ f ^ 32 * 524289 * 2 ^ (2 * Fl.cost T f + 1) := ineqB T f hT49 (by omega) (by omega) (by omega)
                        rw [← HC.out] at IB
                        exact absurd h1 (Nat.not_lt.2 IB)
                      clear hS9 hsB hqb9 hvb hs1 hs2 QV2 VV RV2 hqn hrn hvn
                      go_wp2
                      go_roundw
                      case rel => exact ⟨k + 1, by omega, by go_num, hS10⟩
                      case measure => simp [intOf]; omega
              · have hkn : n = k := by omega
                subst hkn
                have hOo := hSt.out
                have hbo := hSt.bel
                clear hSt
                go_wp2_with fail
                go_loopw [17] (fun i wr => ∃ k : Nat, n ≤ k ∧ k ≤ m ∧ i = .int .i64 k ∧ U32s wr O (costs T fs ++ cs.drop n) ∧ Below w.heap.size w wr) (fun i _ => m - (intOf i).toNat)
                case atStart => exact ⟨n, Nat.le_refl _, hnm, rfl, hOo, hbo⟩
                case round =>
                  clear hOo hbo
                  obtain ⟨k, hnk, hkm, rfl, hOo, hbo⟩ := hrel
                  by_cases hlt : k < m
                  · have hkl : k < cs.length := by rw [Hm.out]; omega
                    rcases hsrc1 with hs1 | ⟨sb, so, rfl, hsb, hsc⟩
                    · rw [hs1] at hkl; simp at hkl
                    have hcc := (hbo.cell (p := ⟨sb, so + k, none⟩) hsb).trans (hsc k hkl)
                    have hOc := hOo.cell (show k < (costs T fs ++ cs.drop n).length by rw [List.length_append, costs_length, List.length_drop, Hl.out, Hm.out]; omega)
                    have hOe : (costs T fs ++ cs.drop n).getD k 0 = cs.getD k 0 := by
                      rw [List.getD_eq_getElem?_getD, List.getElem?_append_right (by rw [costs_length, Hl.out]; exact hnk), costs_length, Hl.out, List.getElem?_drop, show n + (k - n) = k by omega, ← List.getD_eq_getElem?_getD]
                    rw [hOe] at hOc
                    have HO : Hid (U32s wr O (costs T fs ++ cs.drop n) ∧ Below w.heap.size w wr) := ⟨hOo, hbo⟩
                    have hki : (k : Int) < (m : Int) := by omega
                    generalize cs.getD k 0 = v at *
                    clear hOo hbo hsc hOe hkl
                    go_wp2_with fail
                    go_quiet (fail)
                    go_wp2
                    go_roundw
                    case rel => exact ⟨k + 1, by omega, by omega, by go_num, HO.out.1, below_drewN HO.out.2 _⟩
                    case measure => simp [intOf]; omega
                  · go_wp2
                    go_ret
                    exact ⟨rfl, hbo⟩
end Go.Proofs.Qxb6625468a
