/-
  make([]uint32, n) and copy at this program, as equations on the run; the law's first statement 'freq = a copy of freq'.
-/
import Derived.Test.Qxb6625468aPoint
import Derived.Deep.OwnRows
import Derived.Laws.CopyOwn
import Derived.Deep.DeepCutAuto
import Derived.Deep.QuietTactic
import Derived.BigQuiet
namespace Go.Proofs.Qxb6625468a
open Go.ChangeShapes Go.WideShapes Go.ChangeAt Go.RowKit
set_option linter.unusedVariables false

theorem info24 : (Try.prog.info? 24).map (fun i => (i.zero, i.size, i.bytes)) = some (some (.int .u32 0), 1, 4) := by kernel_rfl
def zeros (n : Nat) : List Nat := List.replicate n 0
theorem zeros_length (n : Nat) : (zeros n).length = n := by simp [zeros]
theorem made_zeros (n : Nat) : madeCells #[Value.int .u32 0] n = vals (zeros n) := by
  apply Array.ext_getElem?
  intro i
  simp [madeCells, vals, zeros]
  by_cases h : i < n
  · simp [h, Nat.mod_one]
  · simp [h]
theorem run_make32 (n : Nat) (hn : n ≤ 1000000) (w : World) :
    (Instr.makeSlice 22 (.int .i64 (n : Int)) (.int .i64 (n : Int))).run Try.prog w = .ok (.slice (some ⟨w.heap.size, 0, none⟩) n n) (w.alloc (.cells (vals (zeros n)) 24)) := by
  rw [← made_zeros]
  exact run_make_row' 22 24 (.int .u32 0) 4 Try.underlying22 info24 rfl .i64 .i64 n (by omega) (by omega) w
theorem U32s.made (w : World) (l : List Nat) : U32s (w.alloc (.cells (vals l) 24)) w.heap.size l := by
  unfold U32s
  show (w.heap.push _)[w.heap.size]? = _
  simp

/-- The numbers that a slice of uint32 that came in holds. -/
def Src (w : World) (a : Option Addr) (fs : List Nat) : Prop := (a = none ∧ fs = []) ∨ ∃ x, a = some x ∧ ∀ j, j < fs.length → w.cell? (x.add j) = some (.int .u32 ((fs.getD j 0 : Nat) : Int))

theorem run_copy32 (w : World) (ty : TypeId) (g : Nat) (x : Addr) (n c : Nat) (fs l : List Nat) (hfs : fs.length = n) (hl : l.length = n) (hg : U32s w g l) (hsrc : ∀ j, j < fs.length → w.cell? (x.add j) = some (.int .u32 ((fs.getD j 0 : Nat) : Int))) :
    (Builtin.copy_ #[22, 22] ty #[.slice (some ⟨g, 0, none⟩) n n, .slice (some x) n c]).run Try.prog w = .ok (.int .i64 (n : Int)) (w.setRow g (vals fs)) := by
  have h := run_copy_row (P := Try.prog) w 22 22 ty 24 g 0 n n x n c (vals l) 24 (vals fs).toList Try.underlying22 (by kernel_rfl) hg (by simp [vals, hfs]) (fun j v hj => by
      have hjl : j < fs.length := by
        rcases Nat.lt_or_ge j fs.length with h | h
        · exact h
        · simp [vals, h] at hj
      rw [hsrc j hjl]
      simp [vals, hjl] at hj
      simp [hjl, hj]) (by simp [vals, hfs, hl]) (fun v hv => by
      simp [vals] at hv
      obtain ⟨a, _, rfl⟩ := hv
      rfl)
  rw [h]
  have e1 : goInt ((vals fs).toList.length : Nat) = .int .i64 (n : Int) := by simp [vals, hfs, goInt]
  have e2 : ((vals l).toList.take 0 ++ (vals fs).toList ++ (vals l).toList.drop (0 + (vals fs).toList.length)).toArray = vals fs := by
    have : (vals l).toList.drop (0 + (vals fs).toList.length) = [] := by
      apply List.drop_eq_nil_of_le
      simp [vals, hfs, hl]
    rw [this]
    simp
  rw [e1, e2]
theorem U32s.copied {w : World} {g : Nat} {l : List Nat} (h : U32s w g l) (fs : List Nat) : U32s (w.setRow g (vals fs)) g fs := setRow_heap w g _ _ 24 _ h

end Go.Proofs.Qxb6625468a
