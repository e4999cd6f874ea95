/-
  The walk of peAppendRecord.
-/
import Derived.Test.Qxb6625651aAppInt
namespace Go.Proofs.Qxb6625651a
open Go.ChangeShapes Go.WideShapes Go.ChangeAt Go.RowKit
set_option linter.unusedVariables false

/-- r spells the record (x, y). -/
def RecText (r : List Nat) (x y : Int) : Prop := ∃ t1 t2, IntText t1 x ∧ IntText t2 y ∧ t1.length ≤ 20 ∧ t2.length ≤ 20 ∧ r = txtOpen ++ (t1 ++ (txtMid ++ (t2 ++ txtClose)))
/-- What peAppendRecord answers. -/
def AppRec (w : World) (base : Nat) (x y : Int) (e : Ending) (w' : World) : Prop :=
  ∃ v' r, e = .returned v' ∧ RecText r x y ∧ Own w' base v' r ∧ Below base w w'

theorem src_string (w : World) (l : List Nat) (hl : ∀ x ∈ l, x < 256) : Src Try.prog 1 9 (.string (bs l)) l.length (u8s l) w := by
  have h := Src.ofString (P := Try.prog) w (tx := 9) Try.underlying9 (bs l)
  rw [bs_size] at h
  have e : byteCells (bs l) = u8s l := by
    unfold byteCells bs u8s
    simp only [List.map_map]
    apply List.map_congr_left
    intro x hx
    have := hl x hx
    simp [Nat.mod_eq_of_lt this]
  rw [e] at h
  exact h

set_option maxHeartbeats 1000000 in
set_option maxRecDepth 100000 in
theorem appRec_calls (base : Nat) (x y : Int) (w : World) (hb : base ≤ w.heap.size) (hx1 : -9223372036854775808 ≤ x) (hx2 : x ≤ 9223372036854775807) (hy1 : -9223372036854775808 ≤ y) (hy2 : y ≤ 9223372036854775807) :
    Calls Try.prog 14 #[.slice none 0 0, .int .i64 x, .int .i64 y] w fun e w' => AppRec w base x y e w' := by
  obtain ⟨v1, w1, happ1, hown1, hb1⟩ := (Own.nil w base).append hb 9 _ txtOpen (src_string w txtOpen (by decide)) (by decide) (by decide)
  have s1 : base ≤ w1.heap.size := Nat.le_trans hb hb1.size
  go_enter Try.func14, Try.ntmps14
  go_wp2_with (at_builtin; refine wpList_append_run rfl (.tmp 7) _ 22 9 rfl _ _ v1 w1 rfl rfl happ1 ?_)
  refine (appInt_calls base v1 _ x w1 hown1 s1 (by decide) hx1 hx2).mono ?_
  rintro e w2 ⟨v2, t1, rfl, ht1, hl1, hown2, hb2⟩
  have s2 : base ≤ w2.heap.size := Nat.le_trans s1 hb2.size
  obtain ⟨v3, w3, happ3, hown3, hb3⟩ := hown2.append s2 9 _ txtMid (src_string w2 txtMid (by decide)) (by decide) (by simp [txtOpen, txtMid]; omega)
  have s3 : base ≤ w3.heap.size := Nat.le_trans s2 hb3.size
  have k3 := (hb1.trans hb2).trans hb3
  clear happ1 hown1 hown2 hb1 hb2 hb3
  go_wp2_with (at_builtin; refine wpList_append_run rfl (.tmp 12) _ 22 9 rfl _ _ v3 w3 rfl rfl happ3 ?_)
  refine (appInt_calls base v3 _ y w3 hown3 s3 (by simp [txtOpen, txtMid]; omega) hy1 hy2).mono ?_
  rintro e w4 ⟨v4, t2, rfl, ht2, hl2, hown4, hb4⟩
  have s4 : base ≤ w4.heap.size := Nat.le_trans s3 hb4.size
  obtain ⟨v5, w5, happ5, hown5, hb5⟩ := hown4.append s4 9 _ txtClose (src_string w4 txtClose (by decide)) (by decide) (by simp [txtOpen, txtMid, txtClose]; omega)
  have HOK : Hid (AppRec w base x y (.returned v5) w5) := ⟨v5, _, rfl, ⟨t1, t2, ht1, ht2, hl1, hl2, rfl⟩, by simpa [List.append_assoc] using hown5, (k3.trans hb4).trans hb5⟩
  clear happ3 hown3 hown4 hown5 hb4 hb5 k3
  go_wp2_with (at_builtin; refine wpList_append_run rfl (.tmp 17) _ 22 9 rfl _ _ v5 w5 rfl rfl happ5 ?_)
  go_ret
  exact HOK.out
end Go.Proofs.Qxb6625651a
