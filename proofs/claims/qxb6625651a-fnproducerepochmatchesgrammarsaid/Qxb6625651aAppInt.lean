/-
  The walk of peAppendInt.
-/
import Derived.Test.Qxb6625651aEqual
namespace Go.Proofs.Qxb6625651a
open Go.ChangeShapes Go.WideShapes Go.ChangeAt Go.RowKit
set_option linter.unusedVariables false

theorem Own.below {w w' : World} {base : Nat} {v : Value} {l : List Nat} (h : Own w base v l) (hb : Below w.heap.size w w') : Own w' base v l :=
  ⟨h.row.kept (row := none) ⟨hb.os, hb.tape, hb.output, hb.size, fun k hk _ => hb.block k hk⟩ (by cases h' : v.ownBlock with | none => exact Or.inl rfl | some k => exact Or.inr (by simp)), h.byte⟩

/-- append, its run known. -/
theorem wpList_append_run {ops : Array Oper} {rest : List Oper} {o : Oper} {a : Act} {w : World} {Q : Exit → Act → World → Prop} (hgd : o.guard = none) (s x : Operand) (t tx : TypeId)
    (ho : o.op = .call { callee := .builtin .append, args := #[s, x], argTypes := #[t, tx] }) (v xv v' : Value) (w' : World) (hs : a.eval s = v) (hx : a.eval x = xv)
    (hrun : ∀ ty, (Builtin.append_ #[t, tx] ty #[v, xv]).run Try.prog w = .ok v' w') (h : wpList Try.prog ops Q rest (a.put o.dst v') w') : wpList Try.prog ops Q (o :: rest) a w :=
  wpList_plain hgd fun _ hK => by
    have h2 := hK _ _ h
    have hr := hrun o.type
    unfold Oper.wp execOp
    simp only [ho, resolve, invoke, builtin, Sem.run_bind, Sem.run_pure, Result.andThen_ok, List.map_toArray, List.map_cons, List.map_nil, hs, hx, hr]
    exact h2

/-- A variable of type [20]byte at block D. -/
def Arr (w : World) (D : Nat) (l : List Nat) : Prop := w.heap[D]? = some (.cells (u8s l).toArray 49 (0, 0))
theorem Arr.lt {w : World} {b : Nat} {l : List Nat} (h : Arr w b l) : b < w.heap.size := by
  unfold Arr at h
  rcases Nat.lt_or_ge b w.heap.size with h' | h'
  · exact h'
  · rw [Array.getElem?_eq_none h'] at h
    cases h
theorem Arr.cell {w : World} {b : Nat} {l : List Nat} (h : Arr w b l) {i : Nat} (hi : i < l.length) : w.cell? ⟨b, i, none⟩ = some (.int .u8 ((l.getD i 0 : Nat) : Int)) := by
  unfold Arr at h
  simp [World.cell?, h, u8s, hi]
theorem Arr.free {w : World} {b : Nat} {l : List Nat} (h : Arr w b l) (i : Nat) : w.frozen? ⟨b, i, none⟩ = false := by
  unfold Arr at h
  simp [World.frozen?, h]
theorem Arr.set {w : World} {b : Nat} {l : List Nat} (h : Arr w b l) (i n : Nat) : Arr (w.setCell ⟨b, i, none⟩ (.int .u8 (n : Int))) b (l.set i n) := by
  unfold Arr at h ⊢
  simp only [World.setCell, Array.getElem?_modify, if_true, h, Option.map_some]
  congr 2
  simp [u8s, List.map_set]

/-- The digits s of the tail of u0; u is what is left. -/
structure DigIn (u0 p u : Nat) (s : List Nat) : Prop where
  len : s.length + p = 20
  dig : ∀ c ∈ s, isDig c = true
  val : u0 = u * 10 ^ s.length + dval s
  run : s = [] ∨ 0 < u
theorem DigIn.start (u0 : Nat) : DigIn u0 20 u0 [] := ⟨rfl, (fun c hc => by cases hc), by simp [dval], Or.inl rfl⟩
theorem DigIn.pos {u0 p u : Nat} {s : List Nat} (h : DigIn u0 p u s) (hu : u0 < 2 ^ 64) : 0 < p := by
  obtain ⟨h1, h2, h3, h4⟩ := h
  rcases Nat.eq_zero_or_pos p with hp | hp
  · exfalso
    have hl : s.length = 20 := by omega
    rcases h4 with h4 | h4
    · rw [h4] at hl; simp at hl
    · rw [hl] at h3
      have : 1 * 10 ^ 20 ≤ u * 10 ^ 20 := Nat.mul_le_mul_right _ h4
      omega
  · exact hp
theorem digit_ok (u : Nat) : isDig (48 + u % 10) = true := by
  have : u % 10 < 10 := Nat.mod_lt _ (by decide)
  simp [isDig]
  omega
theorem val_step (u0 u : Nat) (s : List Nat) (h : u0 = u * 10 ^ s.length + dval s) : u0 = (u / 10) * 10 ^ ((48 + u % 10) :: s).length + dval ((48 + u % 10) :: s) := by
  rw [dval_cons, List.length_cons, Nat.pow_succ, show 48 + u % 10 - 48 = u % 10 by omega, ← Nat.add_assoc, Nat.mul_comm (10 ^ s.length) 10, ← Nat.mul_assoc, ← Nat.add_mul]
  rw [show u / 10 * 10 + u % 10 = u by omega]
  exact h
theorem DigIn.step {u0 p u : Nat} {s : List Nat} (h : DigIn u0 p u s) (hp : 0 < p) (hu : u / 10 ≠ 0) : DigIn u0 (p - 1) (u / 10) ((48 + u % 10) :: s) :=
  ⟨by have := h.len; simp; omega, fun c hc => by
    rcases List.mem_cons.1 hc with rfl | hc
    · exact digit_ok u
    · exact h.dig c hc, val_step u0 u s h.val, Or.inr (by omega)⟩
theorem DigIn.last {u0 p u : Nat} {s : List Nat} (h : DigIn u0 p u s) (hu : u / 10 = 0) : Dec ((48 + u % 10) :: s) u0 := by
  refine ⟨fun c hc => ?_, ?_, by simp, fun hl => ?_⟩
  · rcases List.mem_cons.1 hc with rfl | hc
    · exact digit_ok u
    · exact h.dig c hc
  · have := val_step u0 u s h.val
    rw [hu, Nat.zero_mul, Nat.zero_add] at this
    exact this.symm
  · rcases h.run with h1 | h1
    · rw [h1] at hl; simp at hl
    · simp
      omega
theorem zeros_set (p d : Nat) (s : List Nat) (hp : 0 < p) : (zeros p ++ s).set (p - 1) d = zeros (p - 1) ++ d :: s := by
  obtain ⟨q, rfl⟩ : ∃ q, p = q + 1 := ⟨p - 1, by omega⟩
  rw [Nat.add_sub_cancel]
  have : zeros (q + 1) = zeros q ++ [0] := by simp [zeros, List.replicate_succ']
  rw [this, List.append_assoc, List.set_append, if_neg (by rw [zeros_length]; omega), zeros_length, Nat.sub_self]
  rfl
theorem made_arr (w : World) : Arr (w.alloc (.cells #[.int .u8 0, .int .u8 0, .int .u8 0, .int .u8 0, .int .u8 0, .int .u8 0, .int .u8 0, .int .u8 0, .int .u8 0, .int .u8 0, .int .u8 0, .int .u8 0, .int .u8 0, .int .u8 0, .int .u8 0, .int .u8 0, .int .u8 0, .int .u8 0, .int .u8 0, .int .u8 0] 49)) w.heap.size (zeros 20 ++ []) := heap_alloc_new _ _
theorem Arr.suf {w : World} {D p : Nat} {s : List Nat} (h : Arr w D (zeros p ++ s)) (hd : ∀ c ∈ s, isDig c = true) (hl : s.length ≤ 20) : Suf w (some ⟨D, p, none⟩) s.length s.length s :=
  ⟨rfl, Nat.le_refl _, by omega, (fun h => by cases h), fun c hc => by have := hd c hc; simp [isDig] at this; omega, Or.inr ⟨D, p, rfl, h.lt, fun i hi => by
    rw [h.cell (by rw [List.length_append, zeros_length]; omega)]
    congr 2
    rw [List.getD_eq_getElem?_getD, List.getElem?_append_right (by rw [zeros_length]; omega), zeros_length, Nat.add_sub_cancel_left, ← List.getD_eq_getElem?_getD]⟩⟩

theorem run_slice20 (w : World) (D p : Nat) (hp : p < 20) : (Instr.sliceAt 49 (.pointer (some ⟨D, 0, none⟩)) (some (.int .i64 (p : Int))) none none).run Try.prog w = .ok (.slice (some ⟨D, p, none⟩) (20 - p) (20 - p)) w := by
  have hal : Try.prog.arrayLen 49 = 20 := by decide
  have hsz : (sizeOf (Try.prog.elem 49)).run Try.prog w = .ok 1 w := by kernel_rfl
  rw [run_sliceAt_array_l w 49 ⟨D, 0, none⟩ (by kernel_rfl) .i64 (p : Int) (by omega) (by rw [hal]; omega), hsz]
  simp only [Result.andThen_ok, slicedAt, hal, Int.toNat_natCast]
  rw [if_neg (by omega), Nat.mul_one, add_plain, Nat.zero_add]

/-- What peAppendInt answers. -/
def AppInt (w : World) (base : Nat) (l : List Nat) (x : Int) (e : Ending) (w' : World) : Prop :=
  ∃ v' t, e = .returned v' ∧ IntText t x ∧ t.length ≤ 20 ∧ Own w' base v' (l ++ t) ∧ Below base w w'

set_option maxHeartbeats 1000000 in
set_option maxRecDepth 100000 in
theorem appInt_calls (base : Nat) (v : Value) (l : List Nat) (x : Int) (w : World) (h : Own w base v l) (hb : base ≤ w.heap.size) (hl : l.length ≤ 1000000) (hx1 : -9223372036854775808 ≤ x) (hx2 : x ≤ 9223372036854775807) :
    Calls Try.prog 18 #[v, .int .i64 x] w fun e w' => AppInt w base l x e w' := by
  go_enter Try.func18, Try.ntmps18
  go_upto_if 11 with fail
  go_cut [0, 5] from 8 (fun s0 s5 wc => Own wc base s0 (l ++ (if x < 0 then [45] else [])) ∧ s5 = .int .u64 ((x.natAbs : Nat) : Int) ∧ Below base w wc)
  case first =>
    by_cases hneg : x < 0
    · have hg : decide (x < 0) = true := decide_eq_true hneg
      have hbw : Below w.heap.size w (w.alloc (.cells #[.int .u8 45] 5)) := (Below.refl _ _).alloc (Nat.le_refl _) _
      have hsrc : Suf (w.alloc (.cells #[.int .u8 45] 5)) (some ⟨w.heap.size, 0, none⟩) 1 1 [45] := (U8s.made w [45]).suf (by decide) (by decide)
      obtain ⟨v1, w1, happ, hown1, hb1⟩ := (h.below hbw).append (by simp; omega) 22 _ [45] hsrc.src (by decide) (by simp; omega)
      have hwr : IntKind.u64.wrap (-(IntKind.u64.wrap x)) = ((x.natAbs : Nat) : Int) := by
        rw [IntKind.wrap_u64, IntKind.wrap_u64]
        omega
      have HO : Hid (Own w1 base v1 (l ++ [45])) := hown1
      have HB : Hid (Below base w w1) := (Below.alloc (Below.refl _ _) hb _).trans hb1
      clear hown1 hb1 hbw hsrc h
      have HW : Hid (IntKind.u64.wrap (-(IntKind.u64.wrap x)) = ((x.natAbs : Nat) : Int)) := hwr
      clear hwr
      go_wp2_with (at_builtin; refine wpList_append_run rfl (.tmp 12) (.tmp 13) 22 22 rfl _ _ v1 w1 rfl rfl happ ?_)
      go_meet
      case rel => exact ⟨by rw [if_pos hneg]; exact HO.out, by rw [HW.out], HB.out⟩
    · have hg : decide (x < 0) = false := decide_eq_false hneg
      have hwr : IntKind.u64.wrap x = ((x.natAbs : Nat) : Int) := by
        rw [IntKind.wrap_u64]
        omega
      have HW : Hid (IntKind.u64.wrap x = ((x.natAbs : Nat) : Int)) := hwr
      clear hwr
      go_wp2
      go_meet
      case rel => exact ⟨by rw [if_neg (by omega), List.append_nil]; exact h, by rw [HW.out], Below.refl _ _⟩
  case rest =>
    obtain ⟨hown, rfl, hbel⟩ := hcut
    obtain ⟨N0, hN0⟩ : ∃ N0, N0 = x.natAbs := ⟨_, rfl⟩
    have hu64 : N0 < 2 ^ 64 := by omega
    have HU : Hid (N0 = x.natAbs) := hN0
    rw [← hN0]
    have hA0 := made_arr wc
    have hB0 : Below wc.heap.size wc _ := (Below.refl wc.heap.size wc).alloc (Nat.le_refl _) (.cells #[.int .u8 0, .int .u8 0, .int .u8 0, .int .u8 0, .int .u8 0, .int .u8 0, .int .u8 0, .int .u8 0, .int .u8 0, .int .u8 0, .int .u8 0, .int .u8 0, .int .u8 0, .int .u8 0, .int .u8 0, .int .u8 0, .int .u8 0, .int .u8 0, .int .u8 0, .int .u8 0] 49)
    clear hN0
    go_wp2_with fail
    generalize wc.alloc _ = W0 at *
    obtain ⟨D, hD⟩ : ∃ D, D = wc.heap.size := ⟨_, rfl⟩
    have HD : Hid (D = wc.heap.size) := hD
    rw [← hD] at hA0 hB0
    rw [← hD]
    clear hD
    go_loopw [5, 7] (fun u i wr => ∃ (p uu : Nat) (s : List Nat), u = .int .u64 (uu : Int) ∧ i = .int .i64 (p : Int) ∧ DigIn N0 p uu s ∧ Arr wr D (zeros p ++ s) ∧ Below D wc wr) (fun _ i _ => (intOf i).toNat)
    case atStart => exact ⟨20, N0, [], rfl, rfl, DigIn.start N0, hA0, hB0⟩
    case round =>
      clear hA0 hB0
      obtain ⟨p, uu, s, rfl, rfl, hdi, har, hbw⟩ := hrel
      have hp := hdi.pos hu64
      have hp20 : p ≤ 20 := by have := hdi.len; omega
      have huu : uu < 2 ^ 64 := by
        have h1 := hdi.val
        have h2 : uu * 1 ≤ uu * 10 ^ s.length := Nat.mul_le_mul_left _ (Nat.pos_of_ne_zero (by simp))
        omega
      have huu2 : uu < 18446744073709551616 := huu
      have hlen : (zeros p ++ s).length = 20 := by rw [List.length_append, zeros_length]; have := hdi.len; omega
      have hc := har.cell (i := p - 1) (by omega)
      have hf := har.free (p - 1)
      have hset := har.set (p - 1) (48 + uu % 10)
      rw [zeros_set p _ s hp, show ((48 + uu % 10 : Nat) : Int) = 48 + (uu : Int) % 10 by omega] at hset
      have hbw' := hbw.setCell (p := ⟨D, p - 1, none⟩) (Nat.le_refl _) (.int .u8 (48 + (uu : Int) % 10))
      generalize (zeros p ++ s).getD (p - 1) 0 = oldv at *
      by_cases hq : uu / 10 = 0
      · have hdec := hdi.last hq
        have hg : ((uu : Int) / 10 == 0) = true := by rw [beq_iff_eq]; omega
        have HDI : Hid (DigIn N0 p uu s) := hdi
        have HDEC : Hid (Dec ((48 + uu % 10) :: s) N0) := hdec
        clear hdi hdec har hbw
        have hsl := run_slice20 (wr.setCell ⟨D, p - 1, none⟩ (.int .u8 (48 + (uu : Int) % 10))) D (p - 1) (by omega)
        rw [show ((p - 1 : Nat) : Int) = (p : Int) - 1 by omega] at hsl
        have hsuf := hset.suf HDEC.out.dig (by have := HDI.out.len; simp; omega)
        have hsl20 : ((48 + uu % 10) :: s).length = 20 - (p - 1) := by have := HDI.out.len; simp; omega
        rw [hsl20] at hsuf
        have hownr := hown.below (by rw [← HD.out]; exact hbw')
        have hbr : base ≤ wr.heap.size := by have h1 := hbel.size; have h2 := hbw'.size; simp [World.setCell] at h2; omega
        obtain ⟨v1, w1, happ, hown1, hb1⟩ := hownr.append (by simpa [World.setCell] using hbr) 22 _ _ hsuf.src (fun c hc => by have := HDEC.out.dig c hc; simp [isDig] at this; omega) (by have := HDI.out.len; simp; split <;> simp <;> omega)
        have hbD : base ≤ D := by rw [HD.out]; exact Nat.le_trans hb hbel.size
        have HOK : Hid (AppInt w base l x (.returned v1) w1) := by
          have h19 := HDEC.out.short (by rw [HU.out]; omega)
          refine ⟨v1, (if x < 0 then [45] else []) ++ ((48 + uu % 10) :: s), rfl, ⟨_, by rw [← HU.out]; exact HDEC.out, ?_⟩, ?_, by rw [← List.append_assoc]; exact hown1, hbel.trans (((⟨hbw'.os, hbw'.tape, hbw'.output, hbw'.size, fun k hk => hbw'.block k (by omega)⟩ : Below base wc _)).trans hb1)⟩
          · split <;> rfl
          · rw [List.length_append]
            split <;> simp at h19 ⊢ <;> omega
        clear hown1 hb1 hownr hsuf
        go_wp2_with (at_builtin; refine wpList_append_run rfl (.tmp 29) (.tmp 31) 22 22 rfl _ _ v1 w1 rfl rfl happ ?_)
        go_ret
        exact HOK.out
      · have hst := hdi.step hp hq
        have hg : ((uu : Int) / 10 == 0) = false := beq_eq_false_iff_ne.2 (by omega)
        have HDI : Hid (DigIn N0 (p - 1) (uu / 10) ((48 + uu % 10) :: s)) := hst
        clear hdi hst har hbw
        go_wp2
        go_roundw
        case rel => exact ⟨p - 1, uu / 10, _, by go_num, by go_num, HDI.out, hset, hbw'⟩
        case measure => simp [intOf]; omega
end Go.Proofs.Qxb6625651a
