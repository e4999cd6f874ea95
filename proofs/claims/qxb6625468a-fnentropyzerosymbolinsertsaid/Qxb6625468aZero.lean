/-
  The walk of the law FnEntropyZeroSymbolInsert.
-/
import Derived.Test.Qxb6625468aIns
import Derived.Lib.SliceRun
namespace Go.Proofs.Qxb6625468a
open Go.ChangeShapes Go.WideShapes Go.ChangeAt Go.RowKit
set_option linter.unusedVariables false

theorem keepN {w wr : World} {A B bf : Nat} {fa : Option Addr} {l l' fs : List Nat} (h : U32s wr A l ∧ U32s wr B l' ∧ Row wr fa bf fs ∧ Below w.heap.size w wr) (q : Nat) : U32s (wr.drewN q) A l ∧ U32s (wr.drewN q) B l' ∧ Row (wr.drewN q) fa bf fs ∧ Below w.heap.size w (wr.drewN q) :=
  ⟨h.1, h.2.1, h.2.2.1, ⟨h.2.2.2.os, h.2.2.2.tape, h.2.2.2.output, h.2.2.2.size, h.2.2.2.block⟩⟩

set_option maxHeartbeats 8000000 in
set_option maxRecDepth 1000000 in
theorem zero_main (a : Option Addr) (n c p : Nat) (fs : List Nat) (w : World) (hsrc : Src w a fs) (hlen : fs.length = n) (hn : n ≤ 65536) (hp : p ≤ n) (h32 : ∀ f ∈ fs, f < 2 ^ 32) :
    Calls Try.prog 4 #[.slice a n c, .int .i64 (p : Int)] w fun e w' => e = .returned (.bool true) ∧ Below w.heap.size w w' := by
  have hmk := run_make32 n (by omega)
  have Hl : Hid (fs.length = n) := hlen
  clear hlen
  go_enter Try.func4, Try.ntmps4
  go_wp2_with fail
  refine (bytes12_calls a n c p _ hn).mono ?_
  rintro e w1 ⟨rfl, rfl⟩
  go_upto_if 37 with fail
  go_cut [0] from 21 (fun s0 wc => ∃ fa bf cf, s0 = .slice fa n cf ∧ Row wc fa bf fs ∧ (fs = [] ∨ bf < wc.heap.size) ∧ Below w.heap.size w wc)
  case first =>
    rcases hsrc with ⟨rfl, hfs⟩ | ⟨x, rfl, hx⟩
    · go_wp2
      go_meet
      case rel => exact ⟨none, 0, c, rfl, Or.inl hfs, Or.inl hfs, Below.refl _ _⟩
    · have hcp := fun ty => run_copy32 (w.alloc (.cells (vals (zeros n)) 24)) ty w.heap.size x n c fs (zeros n) Hl.out (zeros_length n) (U32s.made w _) (fun j hj => Lib.cell?_alloc_some _ (hx j hj))
      go_wp2
      go_meet
      case rel => exact ⟨some ⟨w.heap.size, 0, none⟩, w.heap.size, n, rfl, Or.inr ⟨rfl, (U32s.made w _).copied fs⟩, Or.inr (by simp [World.setRow]), below_setRow ((Below.refl _ _).alloc (Nat.le_refl _) _) (Nat.le_refl _) _⟩
  case rest =>
    obtain ⟨fa, bf, cf, rfl, hrow, hbf, hbel⟩ := hcut
    clear hsrc
    have hmk1 := run_make32 (n + 1) (by omega)
    rw [show ((n + 1 : Nat) : Int) = (n : Int) + 1 by omega] at hmk1
    have hT49 : fs.sum < 2 ^ 49 := by
      have := sum_take_le fs h32 fs.length
      rw [List.take_of_length_le (Nat.le_refl _), Hl.out] at this
      omega
    -- the costs of freq
    go_wp2_with fail
    have hA0 := U32s.made wc (zeros n)
    have hr0 := hrow.alloc (.cells (vals (zeros n)) 24)
    refine (zzE fa bf cf wc.heap.size n n n fs (zeros n) _ Hl.out (zeros_length n) hr0 hA0 (hbf.imp id (fun h => by omega)) (Nat.le_refl _) (by omega) (by omega) h32).mono ?_
    rintro e w1 ⟨rfl, hA, hO⟩
    rw [List.drop_eq_nil_of_le (by rw [zeros_length]; exact Nat.le_refl _), List.append_nil] at hA
    have hr1 := hr0.only hO (hbf.imp id (fun h => by omega))
    have hb1 : Below w.heap.size w w1 := (hbel.alloc (hbel.size) _).trans (hO.below hbel.size)
    have hs1 : wc.heap.size < w1.heap.size := by have := hO.size; simp at this; omega
    have hAw : w.heap.size ≤ wc.heap.size := hbel.size
    have hbf1 : fs = [] ∨ bf < w1.heap.size := hbf.imp id (fun h => by omega)
    have hbfA : fs = [] ∨ bf ≠ wc.heap.size := hbf.imp id (fun h => by omega)
    clear hr0 hA0 hrow hbel hO hbf
    generalize wc.heap.size = A at *
    clear wc
    go_wp2_with fail
    -- g, built by two loops
    have hG0 : U32s (w1.alloc (.cells (vals (zeros (n + 1))) 24)) w1.heap.size (insA fs 0) := by rw [insA_zero, Hl.out]; exact U32s.made w1 (zeros (n + 1))
    have hA2 := hA.alloc (.cells (vals (zeros (n + 1))) 24)
    have hr2 := hr1.alloc (.cells (vals (zeros (n + 1))) 24)
    have hb2 : Below w.heap.size w (w1.alloc (.cells (vals (zeros (n + 1))) 24)) := hb1.alloc hb1.size _
    have hs2 : w1.heap.size < (w1.alloc (.cells (vals (zeros (n + 1))) 24)).heap.size := by simp
    have hGw : w.heap.size ≤ w1.heap.size := hb1.size
    have hbfG : fs = [] ∨ bf ≠ w1.heap.size := hbf1.imp id (fun h => by omega)
    have hAG : A ≠ w1.heap.size := by omega
    clear hA hr1 hb1 hbf1 hs1
    generalize w1.alloc (.cells (vals (zeros (n + 1))) 24) = W at *
    generalize w1.heap.size = G at *
    clear w1
    go_loopw [9] (fun i wr => ∃ k : Nat, k ≤ p ∧ i = .int .i64 k ∧ U32s wr G (insA fs k) ∧ Only G W wr) (fun i _ => p - (intOf i).toNat)
    case atStart => exact ⟨0, Nat.zero_le _, rfl, hG0, Only.refl _ _⟩
    case round =>
      obtain ⟨k, hk, rfl, hg, ho⟩ := hrel
      by_cases hlt : k < p
      · have hkl : k < fs.length := by rw [Hl.out]; omega
        rcases hr2 with hr2 | ⟨rfl, hr2⟩
        · rw [hr2] at hkl; simp at hkl
        have hcell := (ho.keeps (hbfG.resolve_left (fun h => by rw [h] at hkl; simp at hkl)) hr2).cell hkl
        have hgcell := hg.cell (show k < (insA fs k).length by rw [insA_len fs k (by omega)]; omega)
        have hgfree := hg.free k
        have hset := hg.set k (fs.getD k 0)
        have hon := ho.setCell k (.int .u32 ((fs.getD k 0 : Nat) : Int))
        rw [insA_step fs k hkl] at hset
        generalize fs.getD k 0 = f at *
        generalize (insA fs k).getD k 0 = old at *
        clear hg ho hr2 hG0 hA2 hkl
        go_wp2
        go_roundw
        case rel => exact ⟨k + 1, by omega, by go_num, hset, hon⟩
        case measure => simp [intOf]; omega
      · have hkp : p = k := by omega
        subst hkp
        rw [insA_B p fs (by rw [Hl.out]; exact hp)] at hg
        clear hG0
        go_wp2
        go_loopw [10] (fun i wr => ∃ k : Nat, p ≤ k ∧ k ≤ n ∧ i = .int .i64 k ∧ U32s wr G (insB p fs k) ∧ Only G W wr) (fun i _ => n - (intOf i).toNat)
        case atStart => exact ⟨p, Nat.le_refl _, hp, rfl, hg, ho⟩
        case round =>
          clear hg ho
          obtain ⟨k, hpk, hk, rfl, hg, ho⟩ := hrel
          by_cases hlt : k < n
          · have hkl : k < fs.length := by rw [Hl.out]; omega
            rcases hr2 with hr2 | ⟨rfl, hr2⟩
            · rw [hr2] at hkl; simp at hkl
            have hcell := (ho.keeps (hbfG.resolve_left (fun h => by rw [h] at hkl; simp at hkl)) hr2).cell hkl
            have hgcell := hg.cell (show k + 1 < (insB p fs k).length by rw [insB_len p fs k hpk (by omega)]; omega)
            have hgfree := hg.free (k + 1)
            have hset := hg.set (k + 1) (fs.getD k 0)
            have hon := ho.setCell (k + 1) (.int .u32 ((fs.getD k 0 : Nat) : Int))
            rw [insB_step p fs k hpk hkl] at hset
            generalize fs.getD k 0 = f at *
            generalize (insB p fs k).getD (k + 1) 0 = old at *
            clear hg ho hr2 hA2 hkl
            go_wp2
            go_roundw
            case rel => exact ⟨k + 1, by omega, by omega, by go_num, hset, hon⟩
            case measure => simp [intOf]; omega
          · have hkn : n = k := by omega
            subst hkn
            have hgg : U32s wr G (ins p fs) := by
              have := insB_end p fs (by rw [Hl.out]; exact hp)
              rw [Hl.out] at this
              rw [← this]
              exact hg
            have hA3 := ho.keeps hAG hA2
            have hr3 := hr2.only ho hbfG
            have hb3 : Below w.heap.size w wr := hb2.trans (ho.below hGw)
            have hs3 : G < wr.heap.size := by rw [ho.size]; exact hs2
            clear hg ho hA2 hr2 hb2 hs2
            -- the costs of g
            go_wp2_with fail
            have hB0 := U32s.made wr (zeros (n + 1))
            have hA4 := hA3.alloc (.cells (vals (zeros (n + 1))) 24)
            have hr4 := hr3.alloc (.cells (vals (zeros (n + 1))) 24)
            have hg4 := hgg.alloc (.cells (vals (zeros (n + 1))) 24)
            refine (zzE (some ⟨G, 0, none⟩) G (n + 1) wr.heap.size (n + 1) (n + 1) (n + 1) (ins p fs) (zeros (n + 1)) _ (by rw [ins_len p fs (by rw [Hl.out]; exact hp), Hl.out]) (zeros_length _) (Or.inr ⟨rfl, hg4⟩) hB0 (Or.inr (by omega)) (Nat.le_refl _) (by omega) (by omega) (ins_lt p fs _ (by decide) h32)).mono ?_
            rintro e w2 ⟨rfl, hB, hO⟩
            rw [List.drop_eq_nil_of_le (by rw [zeros_length]; exact Nat.le_refl _), List.append_nil, ins_sum] at hB
            have hA5 := hO.keeps (show A ≠ wr.heap.size by have := hA3.lt; omega) hA4
            have hr5 := hr4.only hO (by
              rcases hr3 with h | ⟨_, h⟩
              · exact Or.inl h
              · right; have := h.lt; omega)
            have hb5 : Below w.heap.size w w2 := (hb3.alloc hb3.size _).trans (hO.below hb3.size)
            clear hB0 hA4 hr4 hg4 hO hA3 hr3 hb3 hs3 hgg hGw hAG hbfG hbfA hAw hmk hmk1
            generalize wr.heap.size = Bb at *
            have hST := sum_take_le fs h32
            go_wp2_with fail
            go_loop [12, 13] (fun t i => ∃ k : Nat, k ≤ n ∧ i = .int .i64 k ∧ t = .int .u64 ((fs.take k).sum : Nat)) (fun _ i => n - (intOf i).toNat)
            case atStart => exact ⟨0, Nat.zero_le _, rfl, rfl⟩
            case round =>
              obtain ⟨k, hk, rfl, rfl⟩ := hrel
              by_cases hlt : k < n
              · have hkl : k < fs.length := by rw [Hl.out]; omega
                rcases hr5 with hr5 | ⟨rfl, hr5⟩
                · rw [hr5] at hkl; simp at hkl
                have hcell := hr5.cell hkl
                have hs := hST k
                have HS : Hid ((fs.take (k + 1)).sum = (fs.take k).sum + fs.getD k 0) := sum_take_succ fs k hkl
                have hfk : fs.getD k 0 < 2 ^ 32 := by
                  rw [show fs.getD k 0 = fs[k] by simp [hkl]]; exact h32 _ (List.getElem_mem hkl)
                generalize (fs.take k).sum = S at *
                generalize fs.getD k 0 = f at *
                clear hST hr5 hkl hA5 hB
                go_wp2
                go_round
                case rel => exact ⟨k + 1, by omega, by go_num, by rw [HS.out]; go_num⟩
                case measure => simp [intOf]; omega
              · have hkn : n = k := by omega
                subst hkn
                have hT : (fs.take n).sum = fs.sum := by rw [List.take_of_length_le (by rw [Hl.out]; exact Nat.le_refl _)]
                rw [hT]
                clear hT hST
                obtain ⟨T, hTT⟩ : ∃ T, T = fs.sum := ⟨_, rfl⟩
                rw [← hTT] at hB hA5 hT49 ⊢
                clear hTT
                go_wp2_with fail
                have hpL : p ≤ fs.length := by rw [Hl.out]; exact hp
                have hcp : (costs T (ins p fs)).getD p 0 = Fl.cost T 1 := by
                  rw [costs_getD T _ p (by rw [ins_len p fs hpL]; omega), ins_at p fs hpL]; rfl
                have hplen : p < (costs T (ins p fs)).length := by rw [costs_length, ins_len p fs hpL]; omega
                have hc1 := Fl.cost_main T 1 hT49 (by omega) (by omega)
                have hc1a := hc1.1
                have hc1b := hc1.2.1
                clear hc1
                have hpt1 : ∀ w, Calls Try.prog 13 #[.int .u64 (T : Int), .int .u64 1] w fun e w' => Point (Fl.cost T 1) e ∧ w = w' := fun w => point_calls T 1 hT49 (by omega) (by omega) w
                go_loopw [14] (fun i wr => ∃ k : Nat, k ≤ n ∧ i = .int .i64 k ∧ U32s wr A (costs T fs) ∧ U32s wr Bb (costs T (ins p fs)) ∧ Row wr fa bf fs ∧ Below w.heap.size w wr) (fun i _ => n - (intOf i).toNat)
                case atStart => exact ⟨0, Nat.zero_le _, rfl, hA5, hB, hr5, hb5⟩
                case round =>
                  clear hA5 hB hr5 hb5
                  obtain ⟨k, hk, rfl, hA, hB, hr, hb⟩ := hrel
                  have hBp := hB.cell hplen
                  rw [hcp] at hBp
                  by_cases hlt : k < n
                  · have hkl : k < fs.length := by rw [Hl.out]; omega
                    rcases hr with hr | ⟨rfl, hr⟩
                    · rw [hr] at hkl; simp at hkl
                    have hcell := hr.cell hkl
                    have hAc := hA.cell (show k < (costs T fs).length by rw [costs_length]; exact hkl)
                    rw [costs_getD T fs k hkl] at hAc
                    have hfk : fs.getD k 0 < 2 ^ 32 := by
                      rw [show fs.getD k 0 = fs[k] by simp [hkl]]; exact h32 _ (List.getElem_mem hkl)
                    have hBl : k < p → wr.cell? ⟨Bb, k, none⟩ = some (.int .u32 (Fl.cost T (max (fs.getD k 0) 1) : Int)) := fun h => by
                      rw [hB.cell (by omega), costs_getD T _ k (by rw [ins_len p fs hpL]; omega), ins_lo p fs k h hpL]
                    have hBh : p ≤ k → wr.cell? ⟨Bb, k + 1, none⟩ = some (.int .u32 (Fl.cost T (max (fs.getD k 0) 1) : Int)) := fun h => by
                      rw [hB.cell (by rw [costs_length, ins_len p fs hpL]; omega), costs_getD T _ (k + 1) (by rw [ins_len p fs hpL]; omega), ins_hi p fs k h hpL]
                    have HK : Hid (U32s wr A (costs T fs) ∧ U32s wr Bb (costs T (ins p fs)) ∧ Row wr (some ⟨bf, 0, none⟩) bf fs ∧ Below w.heap.size w wr) := ⟨hA, hB, Or.inr ⟨rfl, hr⟩, hb⟩
                    have hkn : (k : Int) < (n : Int) := by omega
                    have hkn1 : (k : Int) + 1 < (n : Int) + 1 := by omega
                    have hpn1 : (p : Int) < (n : Int) + 1 := by omega
                    generalize fs.getD k 0 = f at *
                    clear hA hB hr hb hkl hplen hcp
                    have hcase : f = 0 ∨ f = 1 ∨ 2 ≤ f := by omega
                    rcases hcase with hf0 | hf0 | hf0
                    · subst hf0
                      rw [show max 0 1 = 1 from rfl] at hAc hBl hBh
                      rw [show ((0 : Nat) : Int) = 0 from rfl] at hcell
                      generalize Fl.cost T 1 = c1 at *
                      go_wp2_with fail
                      refine (hpt1 _).mono ?_
                      clear hpt1
                      rintro e w3 ⟨⟨v, ok, rfl, hok⟩, rfl⟩
                      cases ok
                      · clear hok
                        go_wp2_with fail
                        by_cases hkp : k < p
                        · have hBk := hBl hkp
                          clear hBl hBh
                          go_quiet (fail)
                          go_wp2_with fail
                          go_quiet (fail)
                          go_wp2
                          go_roundw
                          case rel => exact ⟨k + 1, by omega, by go_num, keepN HK.out _⟩
                          case measure => simp [intOf]; omega
                        · have hBk := hBh (by omega)
                          clear hBl hBh
                          go_quiet (fail)
                          go_wp2_with fail
                          go_quiet (fail)
                          go_wp2
                          go_roundw
                          case rel => exact ⟨k + 1, by omega, by go_num, keepN HK.out _⟩
                          case measure => simp [intOf]; omega
                      · have hv := hok rfl
                        subst hv
                        clear hok
                        go_wp2_with fail
                        by_cases hkp : k < p
                        · have hBk := hBl hkp
                          clear hBl hBh
                          go_quiet (fail)
                          go_wp2_with fail
                          go_quiet (fail)
                          go_wp2
                          go_roundw
                          case rel => exact ⟨k + 1, by omega, by go_num, keepN HK.out _⟩
                          case measure => simp [intOf]; omega
                        · have hBk := hBh (by omega)
                          clear hBl hBh
                          go_quiet (fail)
                          go_wp2_with fail
                          go_quiet (fail)
                          go_wp2
                          go_roundw
                          case rel => exact ⟨k + 1, by omega, by go_num, keepN HK.out _⟩
                          case measure => simp [intOf]; omega
                    · subst hf0
                      rw [show max 1 1 = 1 from rfl] at hAc hBl hBh
                      rw [show ((1 : Nat) : Int) = 1 from rfl] at hcell
                      generalize Fl.cost T 1 = c1 at *
                      go_wp2_with fail
                      refine (hpt1 _).mono ?_
                      clear hpt1
                      rintro e w3 ⟨⟨v, ok, rfl, hok⟩, rfl⟩
                      cases ok
                      · clear hok
                        go_wp2_with fail
                        by_cases hkp : k < p
                        · have hBk := hBl hkp
                          clear hBl hBh
                          go_quiet (fail)
                          go_wp2_with fail
                          go_quiet (fail)
                          go_wp2
                          go_roundw
                          case rel => exact ⟨k + 1, by omega, by go_num, keepN HK.out _⟩
                          case measure => simp [intOf]; omega
                        · have hBk := hBh (by omega)
                          clear hBl hBh
                          go_quiet (fail)
                          go_wp2_with fail
                          go_quiet (fail)
                          go_wp2
                          go_roundw
                          case rel => exact ⟨k + 1, by omega, by go_num, keepN HK.out _⟩
                          case measure => simp [intOf]; omega
                      · have hv := hok rfl
                        subst hv
                        clear hok
                        go_wp2_with fail
                        by_cases hkp : k < p
                        · have hBk := hBl hkp
                          clear hBl hBh
                          go_quiet (fail)
                          go_wp2_with fail
                          go_quiet (fail)
                          go_wp2
                          go_roundw
                          case rel => exact ⟨k + 1, by omega, by go_num, keepN HK.out _⟩
                          case measure => simp [intOf]; omega
                        · have hBk := hBh (by omega)
                          clear hBl hBh
                          go_quiet (fail)
                          go_wp2_with fail
                          go_quiet (fail)
                          go_wp2
                          go_roundw
                          case rel => exact ⟨k + 1, by omega, by go_num, keepN HK.out _⟩
                          case measure => simp [intOf]; omega
                    · have hcf := Fl.cost_main T f hT49 (by omega) (by omega)
                      have hcfa := hcf.1
                      have hcfb := hcf.2.1
                      have hptf := fun w => point_calls T f hT49 (by omega) hfk w
                      rw [show max f 1 = f by omega] at hAc hBl hBh
                      have hgd : decide ((f : Int) ≤ 1) = false := decide_eq_false (by omega)
                      clear hcf hpt1
                      generalize Fl.cost T 1 = c1 at *
                      generalize Fl.cost T f = cf1 at *
                      go_wp2_with fail
                      refine (hptf _).mono ?_
                      clear hptf
                      rintro e w3 ⟨⟨v, ok, rfl, hok⟩, rfl⟩
                      cases ok
                      · clear hok
                        go_wp2_with fail
                        by_cases hkp : k < p
                        · have hBk := hBl hkp
                          clear hBl hBh
                          go_quiet (fail)
                          go_wp2_with fail
                          go_quiet (fail)
                          go_wp2
                          go_roundw
                          case rel => exact ⟨k + 1, by omega, by go_num, keepN HK.out _⟩
                          case measure => simp [intOf]; omega
                        · have hBk := hBh (by omega)
                          clear hBl hBh
                          go_quiet (fail)
                          go_wp2_with fail
                          go_quiet (fail)
                          go_wp2
                          go_roundw
                          case rel => exact ⟨k + 1, by omega, by go_num, keepN HK.out _⟩
                          case measure => simp [intOf]; omega
                      · have hv := hok rfl
                        subst hv
                        clear hok
                        go_wp2_with fail
                        by_cases hkp : k < p
                        · have hBk := hBl hkp
                          clear hBl hBh
                          go_quiet (fail)
                          go_wp2_with fail
                          go_quiet (fail)
                          go_wp2
                          go_roundw
                          case rel => exact ⟨k + 1, by omega, by go_num, keepN HK.out _⟩
                          case measure => simp [intOf]; omega
                        · have hBk := hBh (by omega)
                          clear hBl hBh
                          go_quiet (fail)
                          go_wp2_with fail
                          go_quiet (fail)
                          go_wp2
                          go_roundw
                          case rel => exact ⟨k + 1, by omega, by go_num, keepN HK.out _⟩
                          case measure => simp [intOf]; omega
                  · have hkn : n = k := by omega
                    subst hkn
                    clear hcp hplen
                    have HB : Hid (Below w.heap.size w wr) := hb
                    clear hA hB hr hb
                    generalize Fl.cost T 1 = c1 at *
                    go_wp2_with fail
                    refine (hpt1 _).mono ?_
                    rintro e w3 ⟨⟨v, ok, rfl, hok⟩, rfl⟩
                    cases ok
                    · go_wp2
                      go_ret
                      exact ⟨rfl, HB.out⟩
                    · have hv := hok rfl
                      subst hv
                      clear hok
                      go_wp2
                      go_ret
                      exact ⟨rfl, HB.out⟩
end Go.Proofs.Qxb6625468a
