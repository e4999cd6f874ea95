/-
  Slices of bytes in memory, the record reader, and what a call may turn.
-/
import Derived.Test.Qxb6625651aRows
import Derived.Test.Qxb6625651aPlain
import Derived.WalkKit
import Derived.ProofKit
import Derived.OpenShut
import Derived.ShutString
import Derived.ChangeOld
import Derived.Below
import Derived.WalkLawsBesides
import Derived.Laws.BytesString
import Derived.Deep.OwnRows
import Derived.Deep.DeepCutAuto
import Derived.Deep.QuietTactic
import Derived.BigQuiet
import Derived.LoopTactic
import Derived.Outline
namespace Go.Proofs.Qxb6625651a
open Go.ChangeShapes Go.WideShapes Go.ChangeAt Go.RowKit
set_option linter.unusedVariables false

/-- The slice (a, n, c) of bytes holds l. -/
structure Suf (w : World) (a : Option Addr) (n c : Nat) (l : List Nat) : Prop where
  len : l.length = n
  cap : n ≤ c
  capB : c ≤ 9223372036854775807
  nil : a = none → c = 0
  byte : ∀ x ∈ l, x < 256
  mem : l = [] ∨ ∃ b o, a = some ⟨b, o, none⟩ ∧ b < w.heap.size ∧ ∀ i, i < n → w.cell? ⟨b, o + i, none⟩ = some (.int .u8 ((l.getD i 0 : Nat) : Int))
/-- Block R may turn; new blocks may come; all else that was there is as it was. -/
structure Keep (R : Nat) (w w' : World) : Prop where
  os : w'.os = w.os
  tape : w'.tape = w.tape
  output : w'.output = w.output
  size : w.heap.size ≤ w'.heap.size
  block : ∀ k, k < w.heap.size → k ≠ R → w'.heap[k]? = w.heap[k]?
theorem Keep.refl (R : Nat) (w : World) : Keep R w w := ⟨rfl, rfl, rfl, Nat.le_refl _, fun _ _ _ => rfl⟩
theorem Keep.trans {R : Nat} {a b c : World} (h : Keep R a b) (k : Keep R b c) : Keep R a c :=
  ⟨k.os.trans h.os, k.tape.trans h.tape, k.output.trans h.output, Nat.le_trans h.size k.size, fun i hi hR => (k.block i (Nat.lt_of_lt_of_le hi h.size) hR).trans (h.block i hi hR)⟩
theorem Keep.setCell {R : Nat} {a w : World} (h : Keep R a w) (o : Nat) (v : Value) : Keep R a (w.setCell ⟨R, o, none⟩ v) :=
  h.trans ⟨rfl, rfl, rfl, by simp [World.setCell], fun k _ hR => Below.heap_setCell _ _ _ _ hR⟩
theorem Keep.setNew {R : Nat} {a w : World} (h : Keep R a w) {p : Addr} (hp : a.heap.size ≤ p.block) (v : Value) : Keep R a (w.setCell p v) :=
  ⟨h.os, h.tape, h.output, by simpa [World.setCell] using h.size, fun k hk hR => (Below.heap_setCell w p v k (by omega)).trans (h.block k hk hR)⟩
theorem Keep.alloc {R : Nat} {a w : World} (h : Keep R a w) (o : Obj) : Keep R a (w.alloc o) :=
  h.trans ⟨rfl, rfl, rfl, by simp, fun k hk _ => Below.heap_alloc _ _ _ hk⟩
theorem Keep.drew {R : Nat} {a w : World} (h : Keep R a w) : Keep R a w.drew := ⟨h.os, h.tape, h.output, h.size, h.block⟩
theorem Keep.drewN {R : Nat} {a w : World} (h : Keep R a w) (q : Nat) : Keep R a (w.drewN q) := ⟨h.os, h.tape, h.output, h.size, h.block⟩
theorem Keep.below {R : Nat} {w w' : World} (h : Keep R w w') {B : Nat} (hB : B ≤ w.heap.size) (hR : B ≤ R) : Below B w w' :=
  ⟨h.os, h.tape, h.output, h.size, fun k hk => h.block k (by omega) (by omega)⟩
theorem Keep.ofBelow {R : Nat} {w w' : World} (h : Below w.heap.size w w') : Keep R w w' := ⟨h.os, h.tape, h.output, h.size, fun k hk _ => h.block k hk⟩

theorem Suf.below {w w' : World} {a : Option Addr} {n c : Nat} {l : List Nat} (h : Suf w a n c l) (hb : Below w.heap.size w w') : Suf w' a n c l := by
  obtain ⟨h1, h2, h3, h4, h5, h6⟩ := h
  refine ⟨h1, h2, h3, h4, h5, h6.imp id ?_⟩
  rintro ⟨b, o, ha, hlt, hc⟩
  exact ⟨b, o, ha, Nat.lt_of_lt_of_le hlt hb.size, fun i hi => (hb.cell (p := ⟨b, o + i, none⟩) hlt).trans (hc i hi)⟩
/-- .. which lies elsewhere than R. -/
def Apart (R : Nat) (a : Option Addr) : Prop := ∀ x, a = some x → x.block ≠ R
theorem Suf.keep {R : Nat} {w w' : World} {a : Option Addr} {n c : Nat} {l : List Nat} (h : Suf w a n c l) (hk : Keep R w w') (hR : Apart R a) : Suf w' a n c l := by
  obtain ⟨h1, h2, h3, h4, h5, h6⟩ := h
  refine ⟨h1, h2, h3, h4, h5, h6.imp id ?_⟩
  rintro ⟨b, o, ha, hlt, hc⟩
  exact ⟨b, o, ha, Nat.lt_of_lt_of_le hlt hk.size, fun i hi => (World.cell?_of_block (w := w) (hk.block b hlt (hR _ ha))).trans (hc i hi)⟩
theorem Suf.cell {w : World} {a : Option Addr} {n c : Nat} {l : List Nat} (h : Suf w a n c l) {i : Nat} (hi : i < n) : ∃ b o, a = some ⟨b, o, none⟩ ∧ b < w.heap.size ∧ ∀ j, j < n → w.cell? ⟨b, o + j, none⟩ = some (.int .u8 ((l.getD j 0 : Nat) : Int)) := by
  have hl := h.len
  rcases h.mem with h0 | h0
  · subst h0; simp at hl; omega
  · exact h0
theorem getD_byte {l : List Nat} (h : ∀ x ∈ l, x < 256) (i : Nat) : l.getD i 0 < 256 := by
  by_cases hi : i < l.length
  · rw [show l.getD i 0 = l[i] by simp [hi]]; exact h _ (List.getElem_mem hi)
  · rw [List.getD_eq_getElem?_getD, List.getElem?_eq_none (Nat.le_of_not_lt hi)]; decide

/-- The reader at block R. -/
def Rdr (w : World) (R : Nat) (a : Option Addr) (n c : Nat) (f : Bool) : Prop := w.heap[R]? = some (.cells #[.slice a n c, .bool f] 38 (0, 0))
theorem Rdr.rest {w : World} {R : Nat} {a : Option Addr} {n c : Nat} {f : Bool} (h : Rdr w R a n c f) : w.cell? ⟨R, 0, none⟩ = some (.slice a n c) := by
  unfold Rdr at h; simp [World.cell?, h]
theorem Rdr.failed {w : World} {R : Nat} {a : Option Addr} {n c : Nat} {f : Bool} (h : Rdr w R a n c f) : w.cell? ⟨R, 1, none⟩ = some (.bool f) := by
  unfold Rdr at h; simp [World.cell?, h]
theorem Rdr.free {w : World} {R : Nat} {a : Option Addr} {n c : Nat} {f : Bool} (h : Rdr w R a n c f) (i : Nat) : w.frozen? ⟨R, i, none⟩ = false := by
  unfold Rdr at h; simp [World.frozen?, h]
theorem Rdr.lt {w : World} {R : Nat} {a : Option Addr} {n c : Nat} {f : Bool} (h : Rdr w R a n c f) : R < w.heap.size := by
  unfold Rdr at h
  rcases Nat.lt_or_ge R w.heap.size with h' | h'
  · exact h'
  · rw [Array.getElem?_eq_none h'] at h; cases h
theorem Rdr.setRest {w : World} {R : Nat} {a : Option Addr} {n c : Nat} {f : Bool} (h : Rdr w R a n c f) (a' : Option Addr) (n' c' : Nat) : Rdr (w.setCell ⟨R, 0, none⟩ (.slice a' n' c')) R a' n' c' f := by
  unfold Rdr at h ⊢
  simp only [World.setCell, Array.getElem?_modify, if_true, h, Option.map_some]
  rfl
theorem Rdr.setFailed {w : World} {R : Nat} {a : Option Addr} {n c : Nat} {f : Bool} (h : Rdr w R a n c f) (f' : Bool) : Rdr (w.setCell ⟨R, 1, none⟩ (.bool f')) R a n c f' := by
  unfold Rdr at h ⊢
  simp only [World.setCell, Array.getElem?_modify, if_true, h, Option.map_some]
  rfl
theorem Rdr.below {w w' : World} {R : Nat} {a : Option Addr} {n c : Nat} {f : Bool} (h : Rdr w R a n c f) (hb : Below w.heap.size w w') : Rdr w' R a n c f := by
  unfold Rdr
  rw [hb.block R h.lt]
  exact h
end Go.Proofs.Qxb6625651a
