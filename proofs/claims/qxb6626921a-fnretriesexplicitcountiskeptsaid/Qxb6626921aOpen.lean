import Derived.Test.Qxb6626921aSizes
import Derived.Deep.Slices
import Derived.Deep.Strs
namespace Go.Proofs.Qxb6626921a
open Go.ChangeShapes Go.WideShapes Go.ChangeAt Go.RowKit Go.Deep
set_option linter.unusedVariables false

theorem plain_of_cell {w : World} {a : Addr} {v : Value} (h : w.cell? (a.add 0) = some v) : ∃ b o, a = ⟨b, o, none⟩ := by
  obtain ⟨b, o, spot⟩ := a
  have hspot : spot = none := by simpa [Addr.add] using World.cell?_spot h
  subst hspot
  exact ⟨b, o, rfl⟩

theorem cells9 : Try.prog.cellsOf 9 = 1 := by kernel_rfl
theorem cells32 : Try.prog.cellsOf 32 = 1 := by kernel_rfl

section
variable {H : Type} {enc : TypeId × Value → H} {W : World} {held : Bool}
theorem open_strs_at {fuel : Nat} {v : Value} {x : DataW H × List MemPlace} (h : DataW.trod enc Try.prog W 0 (fun _ => true) held fuel 32 [v] = some x) :
    ∃ a n c, v = .slice a n c ∧ Strs W a n := by
  rcases open_strs Try.underlying32 Try.underlying9 cells9 h with ⟨hcs, _⟩ | ⟨a, len, cap, m, Sx, hcs, _, hl, hm, hmm, _, hx⟩
  · simp only [List.cons.injEq, and_true] at hcs
    exact ⟨none, 0, 0, hcs, Or.inl rfl⟩
  · simp only [List.cons.injEq, and_true] at hcs
    refine ⟨some a, len, cap, hcs, ?_⟩
    simp only [if_true] at hmm
    subst hmm
    rcases Nat.eq_zero_or_pos len with h0 | h0
    · exact Or.inl h0
    · obtain ⟨b, o, rfl⟩ := plain_of_cell (hx 0 (by omega)).1
      refine Or.inr ⟨b, o, rfl, by omega, fun i hi => ⟨Sx i, ?_, (hx i (by omega)).2⟩⟩
      rw [← add_plain]
      exact (hx i (by omega)).1

theorem open_grid {a : Option Addr} {n c : Nat} {d : DataW H} {ps : List MemPlace} (h : DataW.Trod enc Try.prog W 0 (fun _ => true) held 22 (.slice a n c) d ps) : Grid W a n ∧ n ≤ maxLen := by
  obtain ⟨fuel, hf⟩ := h
  rcases open_slice1 Try.underlying22 cells32 hf with ⟨hcs, _⟩ | ⟨a', len, cap, m, k, V, D, Pl, hcs, _, hl, hm, hmm, _, hx⟩
  · simp [Value.cells] at hcs
    obtain ⟨rfl, rfl, rfl⟩ := hcs
    exact ⟨Or.inl rfl, Nat.zero_le _⟩
  · simp [Value.cells] at hcs
    obtain ⟨rfl, rfl, rfl⟩ := hcs
    simp only [if_true] at hmm
    subst hmm
    refine ⟨?_, by omega⟩
    rcases Nat.eq_zero_or_pos n with h0 | h0
    · exact Or.inl h0
    · obtain ⟨b, o, rfl⟩ := plain_of_cell (hx 0 (by omega)).1
      refine Or.inr ⟨b, o, rfl, by omega, fun i hi => ?_⟩
      obtain ⟨h1, h2⟩ := hx i (by omega)
      obtain ⟨a', n', c', hv, hs⟩ := open_strs_at h2
      refine ⟨a', n', c', ?_, hs⟩
      rw [← add_plain, h1, hv]
end

end Go.Proofs.Qxb6626921a
