/-
  The walks of the reader's take and expect.
-/
import Derived.Test.Qxb6625651aMem
namespace Go.Proofs.Qxb6625651a
open Go.ChangeShapes Go.WideShapes Go.ChangeAt Go.RowKit
set_option linter.unusedVariables false

/-- The bytes as a string. -/
def bs (l : List Nat) : ByteArray := ⟨(l.map UInt8.ofNat).toArray⟩
theorem bs_size (l : List Nat) : (bs l).size = l.length := by simp [bs, ByteArray.size]
theorem foldl_push (l : List Nat) (s : ByteArray) : l.foldl (fun r n => r.push (UInt8.ofNat ((n : Int)).toNat)) s = ⟨s.data ++ (l.map UInt8.ofNat).toArray⟩ := by
  induction l generalizing s with
  | nil => simp
  | cons x l ih =>
    rw [List.foldl_cons, ih]
    simp [ByteArray.push]
theorem run_toString (w : World) (b o c : Nat) (l : List Nat) (h : ∀ i, i < l.length → w.cell? ⟨b, o + i, none⟩ = some (.int .u8 ((l.getD i 0 : Nat) : Int))) :
    (convert 22 9 (.slice (some ⟨b, o, none⟩) l.length c)).run Try.prog w = .ok (.string (bs l)) w := by
  rw [run_convert_bytes_string w 22 9 5 _ _ _ Try.underlying22 Try.underlying5 Try.underlying9]
  have hl := run_loadCells_list (P := Try.prog) w ⟨b, o, none⟩ ((l.map fun n : Nat => (n : Int)).map (Value.int .u8)) (fun j v hj => by
    have hjl : j < l.length := by
      rcases Nat.lt_or_ge j l.length with h' | h'
      · exact h'
      · simp [h'] at hj
    rw [add_plain, h j hjl]
    simp [hjl] at hj
    simp [hjl, hj])
  simp only [List.length_map] at hl
  rw [run_bytesToString w _ _ _ _ hl]
  congr 2
  rw [List.foldl_map]
  have := foldl_push l ByteArray.empty
  rw [this]
  simp [bs, ByteArray.empty, ByteArray.emptyWithCapacity]
  rfl
theorem toList_bs (l : List Nat) : (bs l).toList = l.map UInt8.ofNat := by simp [bs]
theorem map_inj (a b : List Nat) (ha : ∀ x ∈ a, x < 256) (hb : ∀ x ∈ b, x < 256) (h : a.map UInt8.ofNat = b.map UInt8.ofNat) : a = b := by
  induction a generalizing b with
  | nil => cases b with
    | nil => rfl
    | cons y b => simp at h
  | cons x a ih => cases b with
    | nil => simp at h
    | cons y b =>
      simp only [List.map_cons, List.cons.injEq] at h
      have hx := ha x List.mem_cons_self
      have hy := hb y List.mem_cons_self
      have e : x = y := by
        have := congrArg UInt8.toNat h.1
        simpa [Nat.mod_eq_of_lt hx, Nat.mod_eq_of_lt hy] using this
      rw [e, ih b (fun z hz => ha z (List.mem_cons_of_mem _ hz)) (fun z hz => hb z (List.mem_cons_of_mem _ hz)) h.2]
theorem bs_eq (a b : List Nat) (ha : ∀ x ∈ a, x < 256) (hb : ∀ x ∈ b, x < 256) : ((bs a).toList == (bs b).toList) = (a == b) := by
  rw [toList_bs, toList_bs, Bool.eq_iff_iff, beq_iff_eq, beq_iff_eq]
  exact ⟨map_inj a b ha hb, fun h => by rw [h]⟩

theorem prefix_take (s l : List Nat) : s.isPrefixOf l = (decide (s.length ≤ l.length) && (l.take s.length == s)) := by
  rw [Bool.eq_iff_iff, List.isPrefixOf_iff_prefix, Bool.and_eq_true, decide_eq_true_eq, beq_iff_eq]
  constructor
  · rintro ⟨r, rfl⟩; simp
  · rintro ⟨h1, h2⟩
    refine ⟨l.drop s.length, ?_⟩
    have := List.take_append_drop s.length l
    rw [h2] at this
    exact this
/-- The rest behind k bytes. -/
theorem Suf.drop {w : World} {b o n c : Nat} {l : List Nat} (h : Suf w (some ⟨b, o, none⟩) n c l) (k : Nat) (hk : k ≤ n) (a' : Option Addr) (ha' : a' ≠ none) (haddr : k < n → a' = some ⟨b, o + k, none⟩) : Suf w a' (n - k) (c - k) (l.drop k) := by
  obtain ⟨h1, h2, h3, h4, h5, h6⟩ := h
  refine ⟨by simp; omega, by omega, by omega, fun h => absurd h ha', fun x hx => h5 x (List.mem_of_mem_drop hx), ?_⟩
  by_cases hkn : k < n
  · right
    rcases h6 with h6 | ⟨b', o', he, hlt, hc⟩
    · subst h6; simp at h1; omega
    · cases he
      refine ⟨b, o + k, haddr hkn, hlt, fun i hi => ?_⟩
      rw [Nat.add_assoc, hc (k + i) (by omega)]
      congr 2
      simp [List.getD_eq_getElem?_getD]
  · left
    exact List.drop_eq_nil_of_le (by omega)

/-- What a call on the reader leaves. -/
structure Left (R : Nat) (w w' : World) (l : List Nat) (f : Bool) : Prop where
  ex : ∃ a n c, Rdr w' R a n c f ∧ Suf w' a n c l ∧ Apart R a
  keep : Keep R w w'

set_option maxHeartbeats 1000000 in
set_option maxRecDepth 100000 in
theorem take_calls (R : Nat) (a : Option Addr) (n c : Nat) (f : Bool) (l sl : List Nat) (w : World) (hr : Rdr w R a n c f) (hs : Suf w a n c l) (hap : Apart R a) (hsl : ∀ x ∈ sl, x < 256) (h0 : 0 < sl.length) (h100 : sl.length ≤ 100) :
    Calls Try.prog 21 #[.pointer (some ⟨R, 0, none⟩), .string (bs sl)] w fun e w' =>
      e = .returned (.bool (!f && sl.isPrefixOf l)) ∧ Left R w w' (if !f && sl.isPrefixOf l then l.drop sl.length else l) f := by
  have hrest := hr.rest
  have hfail := hr.failed
  have hcap := hs.cap
  have hcB := hs.capB
  have hlen := hs.len
  cases f with
  | true =>
    have HL : Hid (Left R w w l true) := ⟨⟨a, n, c, hr, hs, hap⟩, Keep.refl _ _⟩
    clear hs hr
    go_enter Try.func21, Try.ntmps21
    go_wp2
    go_ret
    exact ⟨rfl, HL.out⟩
  | false =>
    by_cases hn : n < sl.length
    · have hp : sl.isPrefixOf l = false := by rw [prefix_take, decide_eq_false (by omega)]; rfl
      rw [hp]
      have HL : Hid (Left R w w l false) := ⟨⟨a, n, c, hr, hs, hap⟩, Keep.refl _ _⟩
      have hsz := bs_size sl
      clear hs hr hp
      go_enter Try.func21, Try.ntmps21
      go_wp2
      go_ret
      exact ⟨rfl, HL.out⟩
    · obtain ⟨b, o, rfl, hblt, hcell⟩ := hs.cell (show 0 < n by omega)
      have hconv := fun c => run_toString w b o c (l.take sl.length) (fun i hi => by
        have hi' : i < sl.length := by simp at hi; omega
        rw [hcell i (by omega)]
        congr 2
        simp [List.getD_eq_getElem?_getD, hi'])
      rw [show (l.take sl.length).length = sl.length by simp; omega] at hconv
      have hcmp := bs_eq (l.take sl.length) sl (fun x hx => hs.byte x (List.mem_of_mem_take hx)) hsl
      have hsz := bs_size sl
      have hpre := prefix_take sl l
      rw [decide_eq_true (by omega), Bool.true_and] at hpre
      rw [hpre]
      have hfree := hr.free
      cases hq : (l.take sl.length == sl) with
      | false =>
        rw [hq] at hcmp
        have HL : Hid (Left R w w l false) := ⟨⟨_, n, c, hr, hs, hap⟩, Keep.refl _ _⟩
        clear hs hr hpre hcell hq
        go_enter Try.func21, Try.ntmps21
        go_wp2
        go_ret
        exact ⟨rfl, HL.out⟩
      | true =>
        rw [hq] at hcmp
        have hbR : b ≠ R := hap _ rfl
        have hap' : ∀ o', Apart R (some ⟨b, o', none⟩) := fun o' x hx => by cases hx; exact hbR
        by_cases hcs : c = sl.length
        · have hd := (hs.drop sl.length (by omega) (some ⟨b, o, none⟩) (by simp) (fun h => absurd h (by omega))).keep ((Keep.refl R w).setCell 0 (.slice (some ⟨b, o, none⟩) (n - sl.length) (c - sl.length))) (hap' o)
          have hr' := hr.setRest (some ⟨b, o, none⟩) (n - sl.length) (c - sl.length)
          have HL : Hid (Left R w (w.setCell ⟨R, 0, none⟩ (.slice (some ⟨b, o, none⟩) (n - sl.length) (c - sl.length))) (l.drop sl.length) false) := ⟨⟨_, _, _, hr', hd, hap' o⟩, (Keep.refl R w).setCell 0 _⟩
          rw [show c - sl.length = 0 by omega] at HL
          clear hd hr' hs hr hpre hcell hq hap hap'
          go_enter Try.func21, Try.ntmps21
          go_wp2
          go_ret
          exact ⟨rfl, HL.out⟩
        · have hd := (hs.drop sl.length (by omega) (some ⟨b, o + sl.length, none⟩) (by simp) (fun _ => rfl)).keep ((Keep.refl R w).setCell 0 (.slice (some ⟨b, o + sl.length, none⟩) (n - sl.length) (c - sl.length))) (hap' _)
          have hr' := hr.setRest (some ⟨b, o + sl.length, none⟩) (n - sl.length) (c - sl.length)
          have HL : Hid (Left R w (w.setCell ⟨R, 0, none⟩ (.slice (some ⟨b, o + sl.length, none⟩) (n - sl.length) (c - sl.length))) (l.drop sl.length) false) := ⟨⟨_, _, _, hr', hd, hap' _⟩, (Keep.refl R w).setCell 0 _⟩
          clear hd hr' hs hr hpre hcell hq hap hap'
          go_enter Try.func21, Try.ntmps21
          go_wp2
          go_ret
          exact ⟨rfl, HL.out⟩

set_option maxHeartbeats 1000000 in
set_option maxRecDepth 100000 in
theorem expect_calls (R : Nat) (a : Option Addr) (n c : Nat) (f : Bool) (l sl : List Nat) (w : World) (hr : Rdr w R a n c f) (hs : Suf w a n c l) (hap : Apart R a) (hsl : ∀ x ∈ sl, x < 256) (h0 : 0 < sl.length) (h100 : sl.length ≤ 100) :
    Calls Try.prog 19 #[.pointer (some ⟨R, 0, none⟩), .string (bs sl)] w fun e w' =>
      e = .returned (.tuple #[]) ∧ Left R w w' (expect sl l f).1 (expect sl l f).2 := by
  unfold expect
  have h := take_calls R a n c f l sl w hr hs hap hsl h0 h100
  clear hr hs hap
  cases hq : (!f && sl.isPrefixOf l) with
  | true =>
    rw [hq] at h
    go_enter Try.func19, Try.ntmps19
    go_wp2_with fail
    refine h.mono ?_
    rintro e w1 ⟨rfl, hL⟩
    have HL : Hid (Left R w w1 (l.drop sl.length) f) := hL
    clear h hL
    go_wp2
    go_end0
    exact ⟨rfl, HL.out⟩
  | false =>
    rw [hq] at h
    go_enter Try.func19, Try.ntmps19
    go_wp2_with fail
    refine h.mono ?_
    rintro e w1 ⟨rfl, hL⟩
    obtain ⟨⟨a', n', c', hr', hs', hap'⟩, hk⟩ := hL
    have hf := hr'.failed
    have hfr := hr'.free 1
    have HL : Hid (Left R w (w1.setCell ⟨R, 1, none⟩ (.bool true)) l true) := ⟨⟨a', n', c', hr'.setFailed true, hs'.keep ((Keep.refl R w1).setCell 1 _) hap', hap'⟩, hk.setCell 1 _⟩
    clear h hr' hs' hap' hk
    go_wp2
    go_end0
    exact ⟨rfl, HL.out⟩
end Go.Proofs.Qxb6625651a
