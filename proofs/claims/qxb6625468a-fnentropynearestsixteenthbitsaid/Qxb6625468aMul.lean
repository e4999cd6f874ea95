/-
  The walk of bnMulB1.
-/
import Derived.Test.Qxb6625468aTrim
namespace Go.Proofs.Qxb6625468a
open Go.ChangeShapes Go.WideShapes Go.ChangeAt Go.RowKit
set_option linter.unusedVariables false

theorem Only.drewN {b : Nat} {w w' : World} (h : Only b w w') (q : Nat) : Only b w (w'.drewN q) := ⟨h.os, h.tape, h.output, h.size, h.block⟩
theorem getD_set_ne (l : List Nat) (k v j : Nat) (h : j ≠ k) : (l.set k v).getD j 0 = l.getD j 0 := by
  rw [List.getD_eq_getElem?_getD, List.getD_eq_getElem?_getD, List.getElem?_set_ne (by omega)]

theorem zeros_getD (n k : Nat) : (zeros n).getD k 0 = 0 := by
  simp only [zeros, List.getD_eq_getElem?_getD, List.getElem?_replicate]
  split <;> rfl

/-- The inner loop's relation, plain: of the row rl, with j limbs of the factor done, and the carry. -/
structure MulIn (al bl : List Nat) (i j : Nat) (rl : List Nat) (cr : Nat) : Prop where
  len : rl.length = al.length + bl.length
  limbs : Limbs rl
  zero : ∀ k, i + bl.length ≤ k → rl.getD k 0 = 0
  carry : cr < 2 ^ 32
  val : bnv rl + cr * 2 ^ (32 * (i + j)) = bnv (al.take i) * bnv bl + al.getD i 0 * 2 ^ (32 * i) * bnv (bl.take j)
/-- The outer loop's. -/
structure MulOut (al bl : List Nat) (i : Nat) (rl : List Nat) : Prop where
  len : rl.length = al.length + bl.length
  limbs : Limbs rl
  zero : ∀ k, i + bl.length ≤ k → rl.getD k 0 = 0
  val : bnv rl = bnv (al.take i) * bnv bl
theorem MulOut.start (al bl : List Nat) : MulOut al bl 0 (zeros (al.length + bl.length)) := by
  refine ⟨zeros_length _, limbs_zeros _, fun k hk => zeros_getD _ k, by simp [bnv, bnv_zeros]⟩
theorem MulOut.enter {al bl : List Nat} {i : Nat} {rl : List Nat} (h : MulOut al bl i rl) : MulIn al bl i 0 rl 0 :=
  ⟨h.len, h.limbs, h.zero, by decide, by rw [h.val]; simp [bnv]⟩
theorem mulIn_bound {ai bj r cr : Nat} (h1 : ai < 2 ^ 32) (h2 : bj < 2 ^ 32) (h3 : r < 2 ^ 32) (h4 : cr < 2 ^ 32) : ai * bj + r + cr < 2 ^ 64 := by
  have : ai * bj ≤ (2 ^ 32 - 1) * (2 ^ 32 - 1) := Nat.mul_le_mul (by omega) (by omega)
  omega
theorem MulIn.step {al bl : List Nat} {i j : Nat} {rl : List Nat} {cr : Nat} (h : MulIn al bl i j rl cr) (ha : Limbs al) (hb : Limbs bl) (hi : i < al.length) (hj : j < bl.length) :
    MulIn al bl i (j + 1) (rl.set (i + j) ((al.getD i 0 * bl.getD j 0 + rl.getD (i + j) 0 + cr) % 2 ^ 32)) ((al.getD i 0 * bl.getD j 0 + rl.getD (i + j) 0 + cr) / 2 ^ 32) := by
  obtain ⟨h1, h2, h3, h4, h5⟩ := h
  have hb64 := mulIn_bound (limbs_getD ha i) (limbs_getD hb j) (limbs_getD h2 (i + j)) h4
  have hset := bnv_set rl (i + j) ((al.getD i 0 * bl.getD j 0 + rl.getD (i + j) 0 + cr) % 2 ^ 32) (by omega)
  have htk := bnv_take_succ bl j hj
  refine ⟨by rw [List.length_set]; exact h1, limbs_set h2 _ _ (Nat.mod_lt _ (by decide)), fun k hk => ?_, by omega, ?_⟩
  · rw [getD_set_ne _ _ _ _ (by omega)]
    exact h3 k hk
  · rw [htk]
    have hp : 2 ^ (32 * (i + (j + 1))) = 2 ^ 32 * 2 ^ (32 * (i + j)) := by rw [show 32 * (i + (j + 1)) = 32 + 32 * (i + j) by omega, Nat.pow_add]
    have hp2 : 2 ^ (32 * (i + j)) = 2 ^ (32 * i) * 2 ^ (32 * j) := by rw [show 32 * (i + j) = 32 * i + 32 * j by omega, Nat.pow_add]
    rw [hp]
    have hdm := Nat.div_add_mod (al.getD i 0 * bl.getD j 0 + rl.getD (i + j) 0 + cr) (2 ^ 32)
    generalize (al.getD i 0 * bl.getD j 0 + rl.getD (i + j) 0 + cr) / 2 ^ 32 = q at *
    generalize (al.getD i 0 * bl.getD j 0 + rl.getD (i + j) 0 + cr) % 2 ^ 32 = m at *
    rw [hp2] at hset h5 ⊢
    generalize rl.getD (i + j) 0 = r at *
    generalize bnv (rl.set (i + j) m) = V' at *
    generalize bnv rl = V at *
    generalize bnv (al.take i) * bnv bl = U at *
    generalize al.getD i 0 = ai at *
    generalize bl.getD j 0 = bj at *
    generalize bnv (bl.take j) = Bj at *
    generalize 2 ^ (32 * i) = X at *
    generalize 2 ^ (32 * j) = Y at *
    generalize 2 ^ 32 = Z at *
    clear h1 h2 h3 h4 hb64 htk hp hp2 ha hb hi hj
    grind
theorem MulIn.leave {al bl : List Nat} {i : Nat} {rl : List Nat} {cr : Nat} (h : MulIn al bl i bl.length rl cr) (hi : i < al.length) : MulOut al bl (i + 1) (rl.set (i + bl.length) cr) := by
  obtain ⟨h1, h2, h3, h4, h5⟩ := h
  have hset := bnv_set rl (i + bl.length) cr (by omega)
  rw [h3 _ (Nat.le_refl _), Nat.zero_mul, Nat.add_zero] at hset
  refine ⟨by rw [List.length_set]; exact h1, limbs_set h2 _ _ h4, fun k hk => ?_, ?_⟩
  · rw [getD_set_ne _ _ _ _ (by omega)]
    exact h3 k (by omega)
  · rw [hset, h5, List.take_of_length_le (Nat.le_refl _), bnv_take_succ al i hi, Nat.add_mul]

theorem nil_bn (w : World) : Bn w none 0 0 [] := ⟨rfl, Nat.le_refl _, by decide, fun _ => rfl, (fun d hd => by cases hd), Or.inl rfl⟩

set_option maxHeartbeats 2000000 in
set_option maxRecDepth 100000 in
theorem mul_calls (a b : Option Addr) (na ca nb cb : Nat) (al bl : List Nat) (w : World) (ha : Bn w a na ca al) (hb : Bn w b nb cb bl) (hna : na ≤ 1000) (hnb : nb ≤ 1000) :
    Calls Try.prog 10 #[.slice a na ca, .slice b nb cb] w fun e w' => GivesBn w (bnv al * bnv bl) (na + nb) e w' := by
  by_cases h1 : na = 0
  · subst h1
    have hal : al = [] := List.eq_nil_of_length_eq_zero ha.len
    subst hal
    have hg : (((0 : Nat) : Int) == 0) = true := by decide
    go_enter Try.func10, Try.ntmps10
    go_wp2
    go_ret
    exact ⟨none, 0, 0, [], rfl, nil_bn _, by simp [bnv], Nat.zero_le _, Below.refl _ _⟩
  · have hg1 : ((na : Int) == 0) = false := beq_eq_false_iff_ne.2 (by omega)
    by_cases h2 : nb = 0
    · subst h2
      have hbl : bl = [] := List.eq_nil_of_length_eq_zero hb.len
      subst hbl
      have hg : (((0 : Nat) : Int) == 0) = true := by decide
      go_enter Try.func10, Try.ntmps10
      go_wp2
      go_ret
      exact ⟨none, 0, 0, [], rfl, nil_bn _, by simp [bnv], Nat.zero_le _, Below.refl _ _⟩
    · have hg2 : ((nb : Int) == 0) = false := beq_eq_false_iff_ne.2 (by omega)
      obtain ⟨A, rfl, hcA⟩ := ha.cell (show 0 < na by omega)
      obtain ⟨B, rfl, hcB⟩ := hb.cell (show 0 < nb by omega)
      have hmk := run_make32 (na + nb) (by omega)
      rw [show ((na + nb : Nat) : Int) = (na : Int) + (nb : Int) by omega] at hmk
      have HA : Hid (al.length = na) := ha.len
      have HB : Hid (bl.length = nb) := hb.len
      have hla := ha.limbs
      have hlb := hb.limbs
      have hAlt : A < w.heap.size := by
        have := hcA 0 (by omega)
        rcases Nat.lt_or_ge A w.heap.size with h | h
        · exact h
        · simp [World.cell?, Array.getElem?_eq_none h] at this
      have hBlt : B < w.heap.size := by
        have := hcB 0 (by omega)
        rcases Nat.lt_or_ge B w.heap.size with h | h
        · exact h
        · simp [World.cell?, Array.getElem?_eq_none h] at this
      have hR0 : U32s (w.alloc (.cells (vals (zeros (na + nb))) 24)) w.heap.size (zeros (na + nb)) := U32s.made w _
      have hM0 : MulOut al bl 0 (zeros (na + nb)) := by have := MulOut.start al bl; rwa [HA.out, HB.out] at this
      have hbel : Below w.heap.size w (w.alloc (.cells (vals (zeros (na + nb))) 24)) := (Below.refl _ _).alloc (Nat.le_refl _) _
      clear ha hb
      go_enter Try.func10, Try.ntmps10
      go_wp2_with fail
      generalize w.alloc (.cells (vals (zeros (na + nb))) 24) = W at *
      have hRA : A ≠ w.heap.size := by omega
      have hRB : B ≠ w.heap.size := by omega
      obtain ⟨R, hR⟩ : ∃ R, R = w.heap.size := ⟨_, rfl⟩
      have HR : Hid (R = w.heap.size) := hR
      rw [← hR] at hR0 hbel hAlt hBlt hRA hRB ⊢
      clear hR hmk
      go_loopw [6] (fun i wr => ∃ (k : Nat) (rl : List Nat), k ≤ na ∧ i = .int .i64 k ∧ U32s wr R rl ∧ MulOut al bl k rl ∧ Below R w wr) (fun i _ => na - (intOf i).toNat)
      case atStart => exact ⟨0, _, Nat.zero_le _, rfl, hR0, hM0, hbel⟩
      case round =>
        clear hR0 hM0 hbel
        obtain ⟨i, rl, hi, rfl, hu, hM, hbw⟩ := hrel
        by_cases hlt : i < na
        · have hai := (hbw.cell (p := ⟨A, i, none⟩) hAlt).trans (hcA i hlt)
          have haib := limbs_getD hla i
          have HM : Hid (MulIn al bl i 0 rl 0) := hM.enter
          obtain ⟨ai, hae⟩ : ∃ ai, ai = al.getD i 0 := ⟨_, rfl⟩
          rw [← hae] at hai haib
          have HAE : Hid (ai = al.getD i 0) := hae
          clear hM hae
          go_wp2_with fail
          obtain ⟨wo, hwo⟩ : ∃ wo : World, wo = wr := ⟨_, rfl⟩
          go_loopw [7, 9] (fun c j wr => ∃ (m cr : Nat) (rl : List Nat), m ≤ nb ∧ j = .int .i64 m ∧ c = .int .u64 cr ∧ U32s wr R rl ∧ MulIn al bl i m rl cr ∧ Below R w wr) (fun _ j _ => nb - (intOf j).toNat)
          case atStart => exact ⟨0, 0, rl, Nat.zero_le _, rfl, rfl, hu, HM.out, hbw⟩
          case round =>
            clear hu HM hbw hai hwo
            obtain ⟨j, cr, rl, hj, rfl, rfl, hu, hM, hbw⟩ := hrel
            have hcr := hM.carry
            by_cases hjt : j < nb
            · have hbj := (hbw.cell (p := ⟨B, j, none⟩) hBlt).trans (hcB j hjt)
              have hbjb := limbs_getD hlb j
              have hrlen : i + j < rl.length := by rw [hM.len, HA.out, HB.out]; omega
              have hrc := hu.cell hrlen
              have hrf := hu.free (i + j)
              have hrb := limbs_getD hM.limbs (i + j)
              have hst := hM.step hla hlb (by rw [HA.out]; exact hlt) (by rw [HB.out]; exact hjt)
              rw [← HAE.out] at hst
              have hset := hu.set (i + j) ((ai * bl.getD j 0 + rl.getD (i + j) 0 + cr) % 2 ^ 32)
              have hpb : ai * bl.getD j 0 ≤ 18446744065119617025 := Nat.le_trans (Nat.mul_le_mul (show ai ≤ 2 ^ 32 - 1 by omega) (show bl.getD j 0 ≤ 2 ^ 32 - 1 by omega)) (by decide)
              have HS : Hid (MulIn al bl i (j + 1) (rl.set (i + j) ((ai * bl.getD j 0 + rl.getD (i + j) 0 + cr) % 2 ^ 32)) ((ai * bl.getD j 0 + rl.getD (i + j) 0 + cr) / 2 ^ 32)) := hst
              clear hst hM
              generalize bl.getD j 0 = bj at *
              generalize rl.getD (i + j) 0 = r at *
              have hpb0 : (0 : Int) ≤ (ai : Int) * (bj : Int) := Int.mul_nonneg (by omega) (by omega)
              have hpb1 : (ai : Int) * (bj : Int) ≤ 18446744065119617025 := by
                have : ((ai * bj : Nat) : Int) ≤ 18446744065119617025 := by omega
                rwa [Int.natCast_mul] at this
              have hjn : (j : Int) < (nb : Int) := by omega
              have hijn : (i : Int) + (j : Int) < (na : Int) + (nb : Int) := by omega
              go_wp2_with fail
              go_quiet (fail)
              go_wp2
              go_roundw
              case rel =>
                have e1 : ((ai : Int) * (bj : Int) + (r : Int) + (cr : Int)) % 4294967296 = (((ai * bj + r + cr) % 2 ^ 32 : Nat) : Int) := by omega
                have e2 : ((ai : Int) * (bj : Int) + (r : Int) + (cr : Int)) / 4294967296 = (((ai * bj + r + cr) / 2 ^ 32 : Nat) : Int) := by omega
                rw [e1, e2]
                exact ⟨j + 1, _, _, by omega, by go_num, rfl, hset, HS.out, (below_drewN hbw nq).setCell (Nat.le_refl _) _⟩
              case measure => simp [intOf]; omega
            · have hjn : nb = j := by omega
              subst hjn
              have hrlen : i + nb < rl.length := by rw [hM.len, HA.out, HB.out]; omega
              have hrc := hu.cell hrlen
              have hrf := hu.free (i + nb)
              have hst := MulIn.leave (by rw [HB.out]; exact hM) (by rw [HA.out]; exact hlt)
              rw [HB.out] at hst
              have hset := hu.set (i + nb) cr
              have HS : Hid (MulOut al bl (i + 1) (rl.set (i + nb) cr)) := hst
              clear hst hM
              generalize rl.getD (i + nb) 0 = r at *
              have hijn : (i : Int) + (nb : Int) < (na : Int) + (nb : Int) := by omega
              go_wp2
              go_roundw
              case rel => exact ⟨i + 1, _, by omega, by go_num, hset, HS.out, hbw.setCell (Nat.le_refl _) _⟩
              case measure => simp [intOf]; omega
        · have hin : na = i := by omega
          subst hin
          have hlen : rl.length = na + nb := by rw [hM.len, HA.out, HB.out]
          have hval : bnv rl = bnv al * bnv bl := by rw [hM.val, List.take_of_length_le (by rw [HA.out]; exact Nat.le_refl _)]
          have hbn := made_bn hu hM.limbs (by omega)
          rw [hlen] at hbn
          have HV : Hid (bnv rl = bnv al * bnv bl) := hval
          have HR2 : Hid (Below w.heap.size w wr) := by rw [← HR.out]; exact hbw
          clear hM hu hval hlen hbw
          go_wp2_with fail
          refine (trim_calls _ _ _ rl _ hbn).mono ?_
          rintro e w1 ⟨⟨m, hm, rfl, hT⟩, rfl⟩
          have hb' := hbn.take m hm
          clear hbn
          go_wp2
          go_ret
          exact ⟨_, m, _, _, rfl, hb', hT.val.trans HV.out, hm, HR2.out⟩

end Go.Proofs.Qxb6625468a
