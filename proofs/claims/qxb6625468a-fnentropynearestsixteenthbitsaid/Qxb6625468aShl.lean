/-
  The walk of bnShlB1.
-/
import Derived.Test.Qxb6625468aPow
namespace Go.Proofs.Qxb6625468a
open Go.ChangeShapes Go.WideShapes Go.ChangeAt Go.RowKit
set_option linter.unusedVariables false

structure ShlIn (al : List Nat) (W s i : Nat) (rl : List Nat) : Prop where
  len : rl.length = al.length + W + 1
  limbs : Limbs rl
  zero : ∀ k, i + W < k → rl.getD k 0 = 0
  top : rl.getD (i + W) 0 < 2 ^ s
  val : bnv rl = bnv (al.take i) * 2 ^ (32 * W + s)
theorem ShlIn.start (al : List Nat) (W s : Nat) : ShlIn al W s 0 (zeros (al.length + W + 1)) :=
  ⟨zeros_length _, limbs_zeros _, fun k _ => zeros_getD _ k, by rw [zeros_getD]; exact Nat.two_pow_pos s, by simp [bnv, bnv_zeros]⟩
/-- The low half of a limb shifted by s. -/
theorem low_dvd (ai s : Nat) (hs : s < 32) : (ai * 2 ^ s) % 2 ^ 32 % 2 ^ s = 0 := by
  have h1 : 2 ^ s ∣ 2 ^ 32 := Nat.pow_dvd_pow 2 (by omega)
  exact Nat.mod_eq_zero_of_dvd ((Nat.dvd_mod_iff h1).2 (Nat.dvd_mul_left _ _))
theorem low_or (r ai s : Nat) (hs : s < 32) (hr : r < 2 ^ s) : r ||| (ai * 2 ^ s) % 2 ^ 32 = r + (ai * 2 ^ s) % 2 ^ 32 := by
  rw [Nat.or_comm, nat_join s _ r (low_dvd ai s hs) hr, Nat.add_comm]
theorem low_lt (r ai s : Nat) (hs : s < 32) (hr : r < 2 ^ s) : r + (ai * 2 ^ s) % 2 ^ 32 < 2 ^ 32 := by
  have h1 := low_dvd ai s hs
  have h2 : (ai * 2 ^ s) % 2 ^ 32 < 2 ^ 32 := Nat.mod_lt _ (by decide)
  obtain ⟨d, hd⟩ := Nat.dvd_of_mod_eq_zero h1
  have h3 : 2 ^ 32 = 2 ^ s * 2 ^ (32 - s) := by rw [← Nat.pow_add, show s + (32 - s) = 32 by omega]
  rw [hd] at h2 ⊢
  rw [h3] at h2 ⊢
  have h4 := Nat.lt_of_mul_lt_mul_left h2
  have h5 : 2 ^ s * (d + 1) ≤ 2 ^ s * 2 ^ (32 - s) := Nat.mul_le_mul_left _ h4
  rw [Nat.mul_add] at h5
  omega
theorem high_lt (ai s : Nat) (ha : ai < 2 ^ 32) : ai * 2 ^ s / 2 ^ 32 < 2 ^ s := by
  apply Nat.div_lt_of_lt_mul
  rw [Nat.mul_comm (2 ^ 32)]
  rw [Nat.mul_comm ai]
  exact Nat.mul_lt_mul_of_pos_left ha (Nat.two_pow_pos s)
theorem shl_lt (ai s : Nat) (ha : ai < 2 ^ 32) (hs : s < 32) : ai * 2 ^ s < 2 ^ 63 := by
  have h1 : ai * 2 ^ s ≤ ai * 2 ^ 31 := Nat.mul_le_mul_left _ (Nat.pow_le_pow_right (by decide) (by omega))
  omega
theorem ShlIn.step {al : List Nat} {W s i : Nat} {rl : List Nat} (h : ShlIn al W s i rl) (ha : Limbs al) (hi : i < al.length) (hs : s < 32) :
    ShlIn al W s (i + 1) ((rl.set (i + W) (rl.getD (i + W) 0 + (al.getD i 0 * 2 ^ s) % 2 ^ 32)).set (i + W + 1) (al.getD i 0 * 2 ^ s / 2 ^ 32)) := by
  obtain ⟨h1, h2, h3, h4, h5⟩ := h
  have hai := limbs_getD ha i
  have hlo := low_lt (rl.getD (i + W) 0) (al.getD i 0) s hs h4
  have hhi := high_lt (al.getD i 0) s hai
  have hhi2 : al.getD i 0 * 2 ^ s / 2 ^ 32 < 2 ^ 32 := Nat.lt_of_lt_of_le hhi (Nat.pow_le_pow_right (by decide) (by omega))
  have s1 := bnv_set rl (i + W) (rl.getD (i + W) 0 + (al.getD i 0 * 2 ^ s) % 2 ^ 32) (by omega)
  have s2 := bnv_set (rl.set (i + W) (rl.getD (i + W) 0 + (al.getD i 0 * 2 ^ s) % 2 ^ 32)) (i + W + 1) (al.getD i 0 * 2 ^ s / 2 ^ 32) (by rw [List.length_set]; omega)
  rw [getD_set_ne _ _ _ _ (by omega), h3 (i + W + 1) (by omega), Nat.zero_mul, Nat.add_zero] at s2
  refine ⟨by rw [List.length_set, List.length_set]; exact h1, limbs_set (limbs_set h2 _ _ hlo) _ _ hhi2, fun k hk => ?_, ?_, ?_⟩
  · rw [getD_set_ne _ _ _ _ (by omega), getD_set_ne _ _ _ _ (by omega)]
    exact h3 k (by omega)
  · rw [show i + 1 + W = i + W + 1 by omega, List.getD_eq_getElem?_getD, List.getElem?_set_self (by rw [List.length_set]; omega)]
    exact hhi
  · rw [s2, bnv_take_succ al i hi, Nat.add_mul, ← h5]
    have hdm := Nat.div_add_mod (al.getD i 0 * 2 ^ s) (2 ^ 32)
    have p1 : 2 ^ (32 * (i + W + 1)) = 2 ^ 32 * 2 ^ (32 * (i + W)) := by rw [show 32 * (i + W + 1) = 32 + 32 * (i + W) by omega, Nat.pow_add]
    have p2 : 2 ^ (32 * (i + W)) = 2 ^ (32 * i) * 2 ^ (32 * W) := by rw [show 32 * (i + W) = 32 * i + 32 * W by omega, Nat.pow_add]
    have p3 : 2 ^ (32 * W + s) = 2 ^ (32 * W) * 2 ^ s := Nat.pow_add 2 _ _
    rw [p1, p3]
    rw [p2] at s1 ⊢
    generalize al.getD i 0 * 2 ^ s / 2 ^ 32 = q at *
    generalize (al.getD i 0 * 2 ^ s) % 2 ^ 32 = m at *
    generalize rl.getD (i + W) 0 = r at *
    generalize bnv (rl.set (i + W) (r + m)) = V' at *
    generalize bnv rl = V at *
    generalize al.getD i 0 = ai at *
    generalize 2 ^ (32 * i) = X at *
    generalize 2 ^ (32 * W) = Y at *
    generalize 2 ^ s = S at *
    generalize 2 ^ 32 = Z at *
    clear h1 h2 h3 h4 h5 hlo hhi hhi2 s2 p1 p2 p3 ha hi hs hai
    grind

theorem wrap_shl (x s : Nat) (hx : x < 2 ^ 32) (hs : s < 32) : IntKind.u64.wrap ((x : Int) * 2 ^ s) = ((x * 2 ^ s : Nat) : Int) := by
  have h := shl_lt x s hx hs
  have e : ((x * 2 ^ s : Nat) : Int) = (x : Int) * 2 ^ s := by simp
  rw [IntKind.wrap_u64, ← e]
  omega

set_option maxHeartbeats 1000000 in
set_option maxRecDepth 100000 in
theorem shl_calls (a : Option Addr) (n c : Nat) (l : List Nat) (k : Nat) (w : World) (h : Bn w a n c l) (hn : n ≤ 1000) (hk : k ≤ 1000) :
    Calls Try.prog 11 #[.slice a n c, .int .i64 (k : Int)] w fun e w' => GivesBn w (bnv l * 2 ^ k) (n + 33) e w' := by
  by_cases h1 : n = 0
  · subst h1
    have hl : l = [] := List.eq_nil_of_length_eq_zero h.len
    subst hl
    have hg : (((0 : Nat) : Int) == 0) = true := by decide
    go_enter Try.func11, Try.ntmps11
    go_wp2
    go_ret
    exact ⟨none, 0, 0, [], rfl, nil_bn _, by simp [bnv], Nat.zero_le _, Below.refl _ _⟩
  · have hg1 : ((n : Int) == 0) = false := beq_eq_false_iff_ne.2 (by omega)
    obtain ⟨A, rfl, hcA⟩ := h.cell (show 0 < n by omega)
    obtain ⟨W, hW⟩ : ∃ W, W = k / 32 := ⟨_, rfl⟩
    obtain ⟨s, hs⟩ : ∃ s, s = k % 32 := ⟨_, rfl⟩
    have hs32 : s < 32 := by omega
    have hW32 : W ≤ 32 := by omega
    have HK : Hid (k = 32 * W + s) := by show k = 32 * W + s; omega
    have hWi : (k : Int) / 32 = (W : Int) := by omega
    have hsi : (k : Int) % 32 = (s : Int) := by omega
    have hmk := run_make32 (n + W + 1) (by omega)
    rw [show ((n + W + 1 : Nat) : Int) = (n : Int) + (W : Int) + 1 by omega] at hmk
    have HL : Hid (l.length = n) := h.len
    have hla := h.limbs
    have hAlt : A < w.heap.size := by
      have := hcA 0 (by omega)
      rcases Nat.lt_or_ge A w.heap.size with h | h
      · exact h
      · simp [World.cell?, Array.getElem?_eq_none h] at this
    have hR0 : U32s (w.alloc (.cells (vals (zeros (n + W + 1))) 24)) w.heap.size (zeros (n + W + 1)) := U32s.made w _
    have hM0 : ShlIn l W s 0 (zeros (n + W + 1)) := by have := ShlIn.start l W s; rwa [HL.out] at this
    have hbel : Below w.heap.size w (w.alloc (.cells (vals (zeros (n + W + 1))) 24)) := (Below.refl _ _).alloc (Nat.le_refl _) _
    clear h hW hs
    go_enter Try.func11, Try.ntmps11
    go_wp2_with fail
    generalize w.alloc (.cells (vals (zeros (n + W + 1))) 24) = W0 at *
    obtain ⟨R, hR⟩ : ∃ R, R = w.heap.size := ⟨_, rfl⟩
    have HR : Hid (R = w.heap.size) := hR
    rw [← hR] at hR0 hbel hAlt ⊢
    clear hR hmk hWi hsi
    go_loopw [8] (fun i wr => ∃ (m : Nat) (rl : List Nat), m ≤ n ∧ i = .int .i64 m ∧ U32s wr R rl ∧ ShlIn l W s m rl ∧ Below R w wr) (fun i _ => n - (intOf i).toNat)
    case atStart => exact ⟨0, _, Nat.zero_le _, rfl, hR0, hM0, hbel⟩
    case round =>
      clear hR0 hM0 hbel
      obtain ⟨i, rl, hi, rfl, hu, hM, hbw⟩ := hrel
      by_cases hlt : i < n
      · have hai := (hbw.cell (p := ⟨A, i, none⟩) hAlt).trans (hcA i hlt)
        have haib := limbs_getD hla i
        have hlen : rl.length = n + W + 1 := by rw [hM.len, HL.out]
        have hc0 := hu.cell (show i + W < rl.length by omega)
        have hc1 := hu.cell (show i + W + 1 < rl.length by omega)
        rw [hM.zero (i + W + 1) (by omega)] at hc1
        rw [show ((0 : Nat) : Int) = 0 from rfl] at hc1
        have hf0 := hu.free (i + W)
        have hf1 := hu.free (i + W + 1)
        have htop := hM.top
        have hst := hM.step hla (by rw [HL.out]; exact hlt) hs32
        have hset := (hu.set (i + W) (rl.getD (i + W) 0 + (l.getD i 0 * 2 ^ s) % 2 ^ 32)).set (i + W + 1) (l.getD i 0 * 2 ^ s / 2 ^ 32)
        have HS : Hid (ShlIn l W s (i + 1) ((rl.set (i + W) (rl.getD (i + W) 0 + (l.getD i 0 * 2 ^ s) % 2 ^ 32)).set (i + W + 1) (l.getD i 0 * 2 ^ s / 2 ^ 32))) := hst
        have hor0 := u32_or_nat (rl.getD (i + W) 0) ((l.getD i 0 * 2 ^ s) % 2 ^ 32) (limbs_getD hM.limbs _) (Nat.mod_lt _ (by decide))
        rw [low_or _ _ s hs32 htop] at hor0
        have hhi32 : l.getD i 0 * 2 ^ s / 2 ^ 32 < 2 ^ 32 := by have := shl_lt _ s haib hs32; omega
        have hor1 := u32_or_nat 0 (l.getD i 0 * 2 ^ s / 2 ^ 32) (by decide) hhi32
        rw [Nat.zero_or] at hor1
        have hshl := wrap_shl (l.getD i 0) s haib hs32
        have hv63 := shl_lt _ s haib hs32
        generalize rl.getD (i + W) 0 = r at *
        generalize l.getD i 0 * 2 ^ s = v at *
        rw [show ((v % 2 ^ 32 : Nat) : Int) = (v : Int) % 4294967296 by omega] at hor0
        rw [show ((v / 2 ^ 32 : Nat) : Int) = (v : Int) / 4294967296 by omega, show ((0 : Nat) : Int) = 0 from rfl] at hor1
        rw [show ((r + v % 2 ^ 32 : Nat) : Int) = (r : Int) + (v : Int) % 4294967296 by omega] at hor0 hset
        rw [show ((v / 2 ^ 32 : Nat) : Int) = (v : Int) / 4294967296 by omega] at hset
        generalize l.getD i 0 = ai at *
        have hi1 : (i : Int) + (W : Int) < (n : Int) + (W : Int) + 1 := by omega
        have hi2 : (i : Int) + (W : Int) + 1 < (n : Int) + (W : Int) + 1 := by omega
        clear hst hM hu hlen htop hhi32
        go_wp2
        go_roundw
        case rel => exact ⟨i + 1, _, by omega, by go_num, hset, HS.out, (hbw.setCell (Nat.le_refl _) _).setCell (Nat.le_refl _) _⟩
        case measure => simp [intOf]; omega
      · have hin : n = i := by omega
        subst hin
        have hlen : rl.length = n + W + 1 := by rw [hM.len, HL.out]
        have hval : bnv rl = bnv l * 2 ^ k := by rw [hM.val, List.take_of_length_le (by rw [HL.out]; exact Nat.le_refl _), HK.out]
        have hbn := made_bn hu hM.limbs (by omega)
        rw [hlen] at hbn
        have HV : Hid (bnv rl = bnv l * 2 ^ k) := hval
        have HR2 : Hid (Below w.heap.size w wr) := by rw [← HR.out]; exact hbw
        clear hM hu hval hlen hbw
        go_wp2_with fail
        refine (trim_calls _ _ _ rl _ hbn).mono ?_
        rintro e w1 ⟨⟨m, hm, rfl, hT⟩, rfl⟩
        have hb' := hbn.take m hm
        clear hbn
        go_wp2
        go_ret
        exact ⟨_, m, _, _, rfl, hb', hT.val.trans HV.out, by omega, HR2.out⟩
end Go.Proofs.Qxb6625468a
