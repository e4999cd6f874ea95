/-
  Rows of bytes that the call owns, and append onto them from any source.
-/
import Derived.Test.Qxb6625651aTwin
import Derived.Deep.AppendSrc
import Derived.Laws.AppendOwn
namespace Go.Proofs.Qxb6625651a
open Go.ChangeShapes Go.WideShapes Go.ChangeAt Go.RowKit
set_option linter.unusedVariables false

/-- The bytes as cells. -/
def u8s (l : List Nat) : List Value := l.map fun n => Value.int .u8 ((n : Nat) : Int)
theorem u8s_length (l : List Nat) : (u8s l).length = l.length := by simp [u8s]
theorem u8s_append (a b : List Nat) : u8s (a ++ b) = u8s a ++ u8s b := by simp [u8s]
theorem u8s_one (l : List Nat) : ∀ u ∈ u8s l, u.oneCell' = true := fun u hu => by
  obtain ⟨_, _, rfl⟩ := List.mem_map.1 hu
  rfl
theorem u8s_get (l : List Nat) (i : Nat) (h : i < l.length) : (u8s l)[i]? = some (.int .u8 ((l.getD i 0 : Nat) : Int)) := by
  simp [u8s, h]

theorem append_own_src (base : Nat) (v : Value) (n : Nat) (xs : List Value) (w : World) (hown : w.ownsRow base 5 1 v n xs) (tx : TypeId) (x : Value) (m : Nat) (news : List Value) (hs : Src Try.prog 1 tx x m news w)
    (hB : n + m ≤ 1099511627776) (hbase : base ≤ w.heap.size) :
    ∃ v' w', (∀ ty, (Builtin.append_ #[22, tx] ty #[v, x]).run Try.prog w = .ok v' w') ∧ w'.ownsRow base 5 1 v' (n + m) (xs ++ news) ∧ w.grownBy w' v.ownBlock := by
  obtain ⟨i, hi⟩ : ∃ i, Try.prog.info? 5 = some i := ⟨_, rfl⟩
  have hisz : i.size = 1 := by
    have : (Try.prog.info? 5).map (·.size) = some 1 := by decide
    rw [hi] at this; simpa using this
  have hiby : i.bytes = 1 := by
    have : (Try.prog.info? 5).map (·.bytes) = some 1 := by decide
    rw [hi] at this; simpa using this
  have hz : i.zero = some (.int .u8 0) := by
    have : (Try.prog.info? 5).bind (·.zero) = some (.int .u8 0) := rfl
    rw [hi] at this; simpa using this
  have hl := hs.newsLen
  rw [Nat.mul_one] at hl
  have hs' := hs
  rw [← hisz] at hs
  have hlen : (xs ++ news).length = (n + m) * 1 := by rw [List.length_append, hown.1, hl]; omega
  have grown : ∀ (old : Nat), old < n + m → ∀ (row : Option Nat),
      (w.drew.alloc (.cells ((xs ++ news).toArray ++ Builtin.zeroCells (Value.int .u8 0).cells (grownCap w (n + m) old 5 - (n + m))) 5)).ownsRow base 5 1
        (.slice (some ⟨w.heap.size, 0, none⟩) (n + m) (grownCap w (n + m) old 5)) (n + m) (xs ++ news) ∧
      w.grownBy (w.drew.alloc (.cells ((xs ++ news).toArray ++ Builtin.zeroCells (Value.int .u8 0).cells (grownCap w (n + m) old 5 - (n + m))) 5)) row := by
    intro old ho row
    have hge := grownCap_ge w (n + m) old 5
    have hcm : grownCap w (n + m) old 5 ≤ maxLen := grownCap_le_maxLen w (n + m) old 5 (by simp only [maxLen]; omega)
    refine ⟨⟨hlen, .inr ⟨w.heap.size, _, _, rfl, hbase, heap_alloc_new w.drew _, hge, hcm, ?_, ?_⟩⟩, ⟨rfl, rfl, rfl, by simp, fun k hk _ => Below.heap_alloc w.drew _ k hk⟩⟩
    · simp only [Array.size_append, List.size_toArray, size_zeroCells, hlen, Value.cells]
      simp
      omega
    · rw [Array.toList_append, ← hlen]
      exact List.take_left
  rcases hown.2 with ⟨rfl, rfl⟩ | ⟨g, cap, cur, rfl, hbg, hg, hnc, hcm, hcs, htake⟩
  · have hx : xs = [] := List.eq_nil_of_length_eq_zero (by simpa using hown.1)
    subst hx
    by_cases hm : m = 0
    · subst hm
      have hn : news = [] := List.eq_nil_of_length_eq_zero hl
      subst hn
      refine ⟨.slice none 0 0, w, fun ty => ?_, World.ownsRow_nil w base 5 1, ⟨rfl, rfl, rfl, Nat.le_refl _, fun _ _ _ => rfl⟩⟩
      rcases hs.kind with ⟨e', hk⟩ | hk <;> simp [Builtin.append_, run_underlying Try.underlying22, run_underlying hk, sizeOf, typeInfo, hi, hs.len, hs.cells]
    · have hr := fun ty => run_append_grow_src (P := Try.prog) w 22 tx ty 5 i _ Try.underlying22 hi hz none 0 0 [] (run_firstCells_none w.drew i.size 0 0 0) x m news hs (by omega) (by omega) (growslice_fits (by omega) (by rw [hiby]; omega))
      have hgr := grown 0 (by omega) (Value.ownBlock (.slice none 0 0))
      exact ⟨_, _, hr, hgr.1, hgr.2⟩
  · by_cases hroom : n + m ≤ cap
    · have hst := run_storeCells_at Try.prog g n 5 news 0 cur w hg (by rw [hcs, hl]; omega) hs.one
      simp only [Nat.add_zero] at hst
      refine ⟨.slice (some ⟨g, 0, none⟩) (n + m) cap, w.setRow g (cur.toList.take n ++ news ++ cur.toList.drop (n + news.length)).toArray, fun ty => ?_, ⟨hlen, .inr ⟨g, cap, _, rfl, hbg, setRow_heap w g cur _ 5 _ hg, hroom, hcm, ?_, ?_⟩⟩, ⟨rfl, rfl, rfl, by simp, fun k _ hk => setRow_other w g k _ (fun e => hk (by simp [Value.ownBlock, e]))⟩⟩
      · rcases hs.kind with ⟨e', hk⟩ | hk <;> simp [Builtin.append_, run_underlying Try.underlying22, run_underlying hk, sizeOf, typeInfo, hi, hs.len, hroom, hs'.cells, hisz, Addr.add_lit, hst]
      · simp only [List.size_toArray, List.length_append, List.length_take, List.length_drop, Array.length_toList]
        omega
      · rw [Nat.mul_one] at htake
        rw [htake, ← hlen]
        exact List.take_left
    · have holds : ∀ j u, xs[j]? = some u → w.cell? ((⟨g, 0, none⟩ : Addr).add j) = some u := hown.cells (g := g) rfl
      have hr := fun ty => run_append_grow_src (P := Try.prog) w 22 tx ty 5 i _ Try.underlying22 hi hz (some ⟨g, 0, none⟩) n cap xs (run_firstCells_some w.drew i.size n ⟨g, 0, none⟩ n cap xs (by rw [hisz]; exact hown.1) (by simpa using holds)) x m news hs (by omega) (by omega) (growslice_fits (by omega) (by rw [hiby]; omega))
      have hgr := grown cap (by omega) (Value.ownBlock (.slice (some ⟨g, 0, none⟩) n cap))
      exact ⟨_, _, hr, hgr.1, hgr.2⟩

/-- v is a slice that the call owns (its block is base or later); it holds l. -/
structure Own (w : World) (base : Nat) (v : Value) (l : List Nat) : Prop where
  row : w.ownsRow base 5 1 v l.length (u8s l)
  byte : ∀ x ∈ l, x < 256
theorem grown_below {w w' : World} {base n : Nat} {v : Value} {xs : List Value} (h : w.ownsRow base 5 1 v n xs) (hb : base ≤ w.heap.size) (hg : w.grownBy w' v.ownBlock) : Below base w w' :=
  ⟨hg.os, hg.tape, hg.output, hg.size, fun k hk => hg.block k (by omega) (fun he => by have := h.lt k he.symm; omega)⟩
theorem Own.append {w : World} {base : Nat} {v : Value} {l : List Nat} (h : Own w base v l) (hbase : base ≤ w.heap.size) (tx : TypeId) (x : Value) (r : List Nat) (hs : Src Try.prog 1 tx x r.length (u8s r) w) (hr : ∀ x ∈ r, x < 256) (hB : l.length + r.length ≤ 1099511627776) :
    ∃ v' w', (∀ ty, (Builtin.append_ #[22, tx] ty #[v, x]).run Try.prog w = .ok v' w') ∧ Own w' base v' (l ++ r) ∧ Below base w w' := by
  obtain ⟨v', w', h1, h2, h3⟩ := append_own_src base v l.length (u8s l) w h.row tx x r.length (u8s r) hs hB hbase
  refine ⟨v', w', h1, ⟨by rw [List.length_append, u8s_append]; exact h2, fun x hx => ?_⟩, grown_below h.row hbase h3⟩
  rcases List.mem_append.1 hx with hx | hx
  · exact h.byte x hx
  · exact hr x hx
theorem Own.nil (w : World) (base : Nat) : Own w base (.slice none 0 0) [] := ⟨World.ownsRow_nil w base 5 1, fun x hx => by cases hx⟩
theorem Own.suf {w : World} {base : Nat} {v : Value} {l : List Nat} (h : Own w base v l) : ∃ a c, v = .slice a l.length c ∧ Suf w a l.length c l ∧ ∀ x, a = some x → base ≤ x.block := by
  obtain ⟨h1, h2 | ⟨g, cap, cur, hv, hb, hg, hn, hm, hc, ht⟩⟩ := h.row
  · have hl : l = [] := List.eq_nil_of_length_eq_zero h2.2
    subst hl
    exact ⟨none, 0, h2.1, ⟨rfl, Nat.le_refl _, by decide, fun _ => rfl, h.byte, Or.inl rfl⟩, fun x hx => by cases hx⟩
  · refine ⟨some ⟨g, 0, none⟩, cap, hv, ⟨rfl, hn, by simp only [maxLen] at hm; omega, (fun h => by cases h), h.byte, Or.inr ⟨g, 0, rfl, ?_, fun i hi => ?_⟩⟩, fun x hx => by cases hx; exact hb⟩
    · rcases Nat.lt_or_ge g w.heap.size with h' | h'
      · exact h'
      · rw [Array.getElem?_eq_none h'] at hg; cases hg
    · have := h.row.cells (g := g) (by rw [hv]; rfl) i _ (u8s_get l i hi)
      rw [add_plain] at this
      exact this
theorem Suf.src {w : World} {a : Option Addr} {n c : Nat} {l : List Nat} (h : Suf w a n c l) : Src Try.prog 1 22 (.slice a n c) l.length (u8s l) w := by
  have hl := h.len
  subst hl
  cases a with
  | none =>
    have hc := h.nil rfl
    have hcap := h.cap
    have hl : l = [] := List.eq_nil_of_length_eq_zero (by omega)
    subst hl
    exact Src.ofNil w Try.underlying22 c
  | some x =>
    refine Src.ofSlice w Try.underlying22 x _ c (u8s l) (by rw [u8s_length, Nat.mul_one]) (fun j u hj => ?_) (u8s_one l)
    have hjl : j < l.length := by
      rcases Nat.lt_or_ge j l.length with h' | h'
      · exact h'
      · rw [List.getElem?_eq_none (by rw [u8s_length]; exact h')] at hj; cases hj
    obtain ⟨b, o, he, hlt, hc⟩ := h.cell hjl
    cases he
    rw [u8s_get l j hjl] at hj
    cases hj
    rw [add_plain]
    exact hc j hjl
end Go.Proofs.Qxb6625651a
