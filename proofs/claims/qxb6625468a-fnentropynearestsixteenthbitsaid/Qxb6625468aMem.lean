/-
  Rows of uint32 that fill a block of their own; what a store does to them; worlds that differ in one block.
-/
import Derived.Test.Qxb6625468aRows
import Derived.WalkKit
import Derived.ProofKit
import Derived.OpenShut
import Derived.Below
namespace Go.Proofs.Qxb6625468a
open Go.ChangeShapes Go.WideShapes Go.ChangeAt Go.RowKit

/-- The numbers as cells. -/
def vals (l : List Nat) : Array Value := (l.map fun n : Nat => Value.int .u32 (n : Int)).toArray
/-- Block b is just the row l of uint32. -/
def U32s (w : World) (b : Nat) (l : List Nat) : Prop := w.heap[b]? = some (.cells (vals l) 24 (0, 0))
/-- Only block b may differ; no block is new. -/
structure Only (b : Nat) (w w' : World) : Prop where
  os : w'.os = w.os
  tape : w'.tape = w.tape
  output : w'.output = w.output
  size : w'.heap.size = w.heap.size
  block : ∀ k, k ≠ b → w'.heap[k]? = w.heap[k]?

theorem Only.refl (b : Nat) (w : World) : Only b w w := ⟨rfl, rfl, rfl, rfl, fun _ _ => rfl⟩
theorem Only.trans {b : Nat} {w w' w'' : World} (h : Only b w w') (h' : Only b w' w'') : Only b w w'' :=
  ⟨h'.os.trans h.os, h'.tape.trans h.tape, h'.output.trans h.output, h'.size.trans h.size, fun k hk => (h'.block k hk).trans (h.block k hk)⟩
theorem Only.setCell {b : Nat} {w w' : World} (h : Only b w w') (i : Nat) (v : Value) : Only b w (w'.setCell ⟨b, i, none⟩ v) :=
  h.trans ⟨rfl, rfl, rfl, by simp [World.setCell], fun k hk => Below.heap_setCell _ _ _ _ hk⟩
theorem Only.drew {b : Nat} {w w' : World} (h : Only b w w') : Only b w w'.drew := ⟨h.os, h.tape, h.output, h.size, h.block⟩
theorem Only.below {b B : Nat} {w w' : World} (h : Only b w w') (hb : B ≤ b) : Below B w w' :=
  ⟨h.os, h.tape, h.output, by rw [h.size]; exact Nat.le_refl _, fun k hk => h.block k (by omega)⟩
theorem Only.keeps {b c : Nat} {w w' : World} {l : List Nat} (h : Only b w w') (hc : c ≠ b) (hu : U32s w c l) : U32s w' c l := by
  unfold U32s
  rw [h.block c hc]
  exact hu

theorem vals_size (l : List Nat) : (vals l).size = l.length := by simp [vals]
theorem U32s.lt {w : World} {b : Nat} {l : List Nat} (h : U32s w b l) : b < w.heap.size := by
  unfold U32s at h
  rcases Nat.lt_or_ge b w.heap.size with h' | h'
  · exact h'
  · rw [Array.getElem?_eq_none h'] at h
    cases h
theorem U32s.cell {w : World} {b : Nat} {l : List Nat} (h : U32s w b l) {i : Nat} (hi : i < l.length) : w.cell? ⟨b, i, none⟩ = some (.int .u32 ((l.getD i 0 : Nat) : Int)) := by
  unfold U32s at h
  simp [World.cell?, h, vals, hi]
theorem U32s.free {w : World} {b : Nat} {l : List Nat} (h : U32s w b l) (i : Nat) : w.frozen? ⟨b, i, none⟩ = false := by
  unfold U32s at h
  simp [World.frozen?, h]
theorem U32s.set {w : World} {b : Nat} {l : List Nat} (h : U32s w b l) (i n : Nat) : U32s (w.setCell ⟨b, i, none⟩ (.int .u32 (n : Int))) b (l.set i n) := by
  unfold U32s at h ⊢
  simp only [World.setCell, Array.getElem?_modify, if_true, h, Option.map_some]
  congr 2
  simp [vals, List.map_set]
theorem U32s.alloc {w : World} {b : Nat} {l : List Nat} (h : U32s w b l) (o : Obj) : U32s (w.alloc o) b l := by
  have := h.lt
  unfold U32s
  rw [Below.heap_alloc _ _ _ this]
  exact h
theorem U32s.below {w w' : World} {b B : Nat} {l : List Nat} (h : U32s w b l) (hb : Below B w w') (hB : b < B) : U32s w' b l := by
  unfold U32s
  rw [hb.block b hB]
  exact h
theorem U32s.drew {w : World} {b : Nat} {l : List Nat} (h : U32s w b l) : U32s w.drew b l := h

end Go.Proofs.Qxb6625468a
