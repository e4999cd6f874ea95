/-
  The walk of 'entropy' and of ZZentropy.
-/
import Derived.Test.Qxb6625468aElem
import Derived.Test.Qxb6625468aMem
import Derived.LoopTactic
namespace Go.Proofs.Qxb6625468a
open Go.ChangeShapes Go.WideShapes Go.ChangeAt Go.RowKit
set_option linter.unusedVariables false

/-- The costs of the frequencies, at the total T. -/
def costs (T : Nat) (fs : List Nat) : List Nat := fs.map fun f => Fl.cost T (max f 1)
/-- A slice of uint32 that fills a block of its own, or an empty one. -/
def Row (w : World) (a : Option Addr) (b : Nat) (l : List Nat) : Prop := l = [] ∨ a = some ⟨b, 0, none⟩ ∧ U32s w b l

theorem sum_take_le (fs : List Nat) (h : ∀ f ∈ fs, f < 2 ^ 32) (k : Nat) : (fs.take k).sum ≤ k * 2 ^ 32 := by
  induction fs generalizing k with
  | nil => simp
  | cons a l ih =>
    cases k with
    | zero => simp
    | succ k =>
      have := ih (fun f hf => h f (List.mem_cons_of_mem _ hf)) k
      have := h a List.mem_cons_self
      simp only [List.take_succ_cons, List.sum_cons]
      omega
theorem sum_take_succ (fs : List Nat) (k : Nat) (hk : k < fs.length) : (fs.take (k + 1)).sum = (fs.take k).sum + fs.getD k 0 := by
  rw [List.take_succ_eq_append_getElem hk, List.sum_append]
  simp [hk]
theorem costs_step (T : Nat) (fs cs : List Nat) (k : Nat) (hk : k < fs.length) (hc : fs.length ≤ cs.length) :
    (costs T (fs.take k) ++ cs.drop k).set k (Fl.cost T (max (fs.getD k 0) 1)) = costs T (fs.take (k + 1)) ++ cs.drop (k + 1) := by
  have hl : (costs T (fs.take k)).length = k := by simp [costs]; omega
  rw [List.set_append, if_neg (by omega), hl, Nat.sub_self, List.drop_eq_getElem_cons (by omega), List.set_cons_zero]
  have : costs T (fs.take (k + 1)) = costs T (fs.take k) ++ [Fl.cost T (max (fs.getD k 0) 1)] := by
    unfold costs
    rw [List.take_succ_eq_append_getElem hk, List.map_append]
    simp [hk]
  rw [this, List.append_assoc]
  rfl
theorem costs_len (T : Nat) (fs cs : List Nat) (k : Nat) (hk : k ≤ fs.length) (hc : fs.length ≤ cs.length) : (costs T (fs.take k) ++ cs.drop k).length = cs.length := by
  simp [costs]; omega

set_option maxHeartbeats 1000000 in
theorem entropy_calls (fa : Option Addr) (bf cf bc cc : Nat) (fs cs : List Nat) (w : World) (hf : Row w fa bf fs) (hc : U32s w bc cs) (hb : fs = [] ∨ bf ≠ bc) (hl : fs.length ≤ cs.length) (hn : fs.length ≤ 65537) (hm : cs.length ≤ 65537) (h32 : ∀ f ∈ fs, f < 2 ^ 32) :
    Calls Try.prog 14 #[.slice fa fs.length cf, .slice (some ⟨bc, 0, none⟩) cs.length cc] w fun e w' => e = .returned (.tuple #[]) ∧ U32s w' bc (costs fs.sum fs ++ cs.drop fs.length) ∧ Only bc w w' := by
  have hST := sum_take_le fs h32
  obtain ⟨n, hnn⟩ : ∃ n, n = fs.length := ⟨_, rfl⟩
  obtain ⟨m, hmm⟩ : ∃ m, m = cs.length := ⟨_, rfl⟩
  rw [← hnn, ← hmm]
  have Hn : Hid (n = fs.length) := hnn
  have Hm : Hid (m = cs.length) := hmm
  have hnm : n ≤ m := by omega
  have hn' : n ≤ 65537 := by omega
  have hm' : m ≤ 65537 := by omega
  clear hnn hmm hn hm
  go_enter Try.func14, Try.ntmps14
  go_wp2
  go_loop [4, 12] (fun t i => ∃ k : Nat, k ≤ n ∧ i = .int .i64 k ∧ t = .int .i64 ((fs.take k).sum : Nat)) (fun _ i => n - (intOf i).toNat)
  case atStart => exact ⟨0, Nat.zero_le _, rfl, rfl⟩
  case round =>
    obtain ⟨k, hk, rfl, rfl⟩ := hrel
    by_cases hlt : k < n
    · have hk' : k < fs.length := by rw [← Hn.out]; exact hlt
      rcases hf with hf | ⟨rfl, hf⟩
      · rw [hf] at hk'; simp at hk'
      have hcell := hf.cell hk'
      have hs := hST k
      have HS : Hid ((fs.take (k + 1)).sum = (fs.take k).sum + fs.getD k 0) := sum_take_succ fs k hk'
      have hfk : fs.getD k 0 < 2 ^ 32 := by
        rw [show fs.getD k 0 = fs[k] by simp [hk']]; exact h32 _ (List.getElem_mem hk')
      generalize (fs.take k).sum = S at *
      generalize fs.getD k 0 = f at *
      clear hST hf hk'
      go_wp2
      go_round
      case rel => exact ⟨k + 1, by omega, by go_num, by rw [HS.out]; go_num⟩
      case measure => simp [intOf]; omega
    · have hkn : k = n := by omega
      subst hkn
      have hT : (fs.take k).sum = fs.sum := by rw [List.take_of_length_le (by rw [← Hn.out]; exact Nat.le_refl _)]
      have hT' := hST k
      rw [hT] at hT' ⊢
      obtain ⟨T, hTT⟩ : ∃ T, T = fs.sum := ⟨_, rfl⟩
      rw [← hTT] at hT' ⊢
      have HT : Hid (T = fs.sum) := hTT
      have hT49 : T < 2 ^ 49 := by omega
      clear hT hTT hST hT'
      go_wp2
      go_loopw [23] (fun i wr => ∃ j : Nat, j ≤ k ∧ i = .int .i64 j ∧ U32s wr bc (costs T (fs.take j) ++ cs.drop j) ∧ Only bc w wr) (fun i _ => k - (intOf i).toNat)
      case atStart => exact ⟨0, Nat.zero_le _, rfl, by simpa [costs] using hc, Only.refl _ _⟩
      case round =>
        obtain ⟨j, hj, rfl, hcj, hoj⟩ := hrel
        by_cases hjt : j < k
        · have hj' : j < fs.length := by rw [← Hn.out]; exact hjt
          rcases hf with hf | ⟨rfl, hf⟩
          · rw [hf] at hj'; simp at hj'
          have hb' : bf ≠ bc := hb.resolve_left (by intro h; rw [h] at hj'; simp at hj')
          have hcell := (hoj.keeps hb' hf).cell hj'
          have hccell := hcj.cell (show j < (costs T (fs.take j) ++ cs.drop j).length by rw [costs_len T fs cs j (by omega) hl]; omega)
          have hcfree := hcj.free j
          have hfk : fs.getD j 0 < 2 ^ 32 := by
            rw [show fs.getD j 0 = fs[j] by simp [hj']]; exact h32 _ (List.getElem_mem hj')
          have HS : Hid ((costs T (fs.take j) ++ cs.drop j).set j (Fl.cost T (max (fs.getD j 0) 1)) = costs T (fs.take (j + 1)) ++ cs.drop (j + 1)) := costs_step T fs cs j hj' hl
          have hset := hcj.set j (Fl.cost T (max (fs.getD j 0) 1))
          have hon := hoj.setCell j (.int .u32 (Fl.cost T (max (fs.getD j 0) 1) : Int))
          rw [HS.out] at hset
          generalize fs.getD j 0 = f at *
          generalize (costs T (fs.take j) ++ cs.drop j).getD j 0 = old at *
          obtain ⟨q, b, m1, m2, v, rd, o1, o2, o3, o4, o5, o6, o7⟩ := elem T (max f 1) hT49 (by omega) (by omega)
          have hmx : ∀ ats t w, (Builtin.max_ ats t #[.int .u32 (f : Int), .int .u32 1]).run Try.prog w = .ok (.int .u32 ((max f 1 : Nat) : Int)) w := by
            intro ats t w
            rw [run_max_int2]
            congr 2
            split <;> omega
          generalize Fl.cost T (max f 1) = c at *
          generalize max f 1 = g at *
          clear hcj hj' hf HS hc
          go_wp2_with fail
          refine (o2 _).mono ?_
          rintro e w1 ⟨rfl, rfl⟩
          clear o1 o2
          go_wp2_with fail
          refine (o6 _).mono ?_
          rintro e w1 ⟨rfl, rfl⟩
          clear o6
          go_wp2
          go_roundw
          case rel => exact ⟨j + 1, by omega, by go_num, hset, hon⟩
          case measure => simp [intOf]; omega
        · have hjk : j = k := by omega
          subst hjk
          go_wp2
          go_end0
          refine ⟨rfl, ?_, hoj⟩
          rw [List.take_of_length_le (by rw [← Hn.out]; exact Nat.le_refl _), HT.out] at hcj
          exact hcj

theorem zzEntropy_calls (fa : Option Addr) (bf cf bc cc : Nat) (fs cs : List Nat) (w : World) (hf : Row w fa bf fs) (hc : U32s w bc cs) (hb : fs = [] ∨ bf ≠ bc) (hl : fs.length ≤ cs.length) (hn : fs.length ≤ 65537) (hm : cs.length ≤ 65537) (h32 : ∀ f ∈ fs, f < 2 ^ 32) :
    Calls Try.prog 6 #[.slice fa fs.length cf, .slice (some ⟨bc, 0, none⟩) cs.length cc] w fun e w' => e = .returned (.tuple #[]) ∧ U32s w' bc (costs fs.sum fs ++ cs.drop fs.length) ∧ Only bc w w' := by
  have h := entropy_calls fa bf cf bc cc fs cs w hf hc hb hl hn hm h32
  clear hf hc hb hl hn hm h32
  go_enter Try.func6, Try.ntmps6
  go_wp2_with fail
  refine h.mono ?_
  rintro e w1 ⟨rfl, h1, h2⟩
  go_wp2
  go_end0
  exact ⟨rfl, h1, h2⟩
end Go.Proofs.Qxb6625468a
