/-
  The walk of FnProducerEpochStreamReadsBack.
-/
import Derived.Test.Qxb6625651aRoom
namespace Go.Proofs.Qxb6625651a
open Go.ChangeShapes Go.WideShapes Go.ChangeAt Go.RowKit
set_option linter.unusedVariables false

theorem rec_epoch {r : List Nat} {x y : Int} (h : RecText r x y) (s : List Nat) (hx : -(2 ^ 63) ≤ x) (hx' : x < 2 ^ 63) (hy : -(2 ^ 15) ≤ y) (hy' : y < 2 ^ 15) : epoch (r ++ s) false = (x, y, s, false) := by
  obtain ⟨t1, t2, h1, h2, _, _, rfl⟩ := h
  have := read_record t1 t2 x y s h1 h2 hx hx' hy hy'
  simpa [List.append_assoc] using this
theorem RecText.len {r : List Nat} {x y : Int} (h : RecText r x y) : 0 < r.length ∧ r.length ≤ 100 := by
  obtain ⟨t1, t2, h1, h2, _, _, rfl⟩ := h
  simp [txtOpen, txtMid, txtClose]
  omega
theorem Suf.apart {w : World} {a : Option Addr} {n c : Nat} {l : List Nat} (h : Suf w a n c l) (h0 : 0 < n) : Apart w.heap.size a := by
  obtain ⟨b, o, rfl, hb, _⟩ := h.cell h0
  intro x hx
  cases hx
  exact Nat.ne_of_lt hb

set_option maxHeartbeats 4000000 in
set_option maxRecDepth 100000 in
theorem stream_calls (x1 y1 x2 y2 : Int) (a : Option Addr) (n c : Nat) (l : List Nat) (w : World) (hs : Inp w a n c l) (hn : n ≤ 1048576)
    (hx1 : -9223372036854775808 ≤ x1) (hx1' : x1 ≤ 9223372036854775807) (hy1 : -32768 ≤ y1) (hy1' : y1 ≤ 32767)
    (hx2 : -9223372036854775808 ≤ x2) (hx2' : x2 ≤ 9223372036854775807) (hy2 : -32768 ≤ y2) (hy2' : y2 ≤ 32767) :
    Calls Try.prog 4 #[.int .i64 x1, .int .i16 y1, .int .i64 x2, .int .i16 y2, .slice a n c] w fun e w' => e = .returned (.bool true) ∧ Below w.heap.size w w' := by
  have hcap := hs.cap
  have hcB := hs.capB
  have HI : Hid (Inp w a n c l) := hs
  clear hs
  go_enter Try.func4, Try.ntmps4
  go_wp2_with fail
  refine (bytes13_calls x1 y1 x2 y2 a n c w hn).mono ?_
  rintro e w1 ⟨rfl, rfl⟩
  go_wp2_with fail
  refine (clone0_calls a n c l w HI.out (by omega)).mono ?_
  rintro e w1 ⟨at_, ct, rfl, hsT, hb1, -⟩
  have hln := HI.out.len
  have HL : Hid (l.length ≤ 1048576) := by rw [hln]; exact hn
  clear HI hcap hcB hn hln
  have ST1 : Hid (Suf w1 at_ l.length ct l) := hsT
  have B1 : Hid (Below w.heap.size w w1) := hb1
  clear hsT hb1
  go_wp2_with fail
  refine (appRec_calls w1.heap.size x1 y1 w1 (Nat.le_refl _) hx1 hx1' (by omega) (by omega)).mono ?_
  rintro e w2 ⟨v1, r1, rfl, hr1, hown1, hb2⟩
  obtain ⟨a1, c1, rfl, hs1, -⟩ := hown1.suf
  have R1 : Hid (RecText r1 x1 y1) := hr1
  have S1 : Hid (Suf w2 a1 r1.length c1 r1) := hs1
  have ST2 : Hid (Suf w2 at_ l.length ct l) := ST1.out.below hb2
  have B2 : Hid (Below w.heap.size w w2) := B1.out.trans (hb2.mono B1.out.size)
  clear ST1 B1 hb2 hs1 hown1 hr1
  go_wp2_with fail
  refine (appRec_calls w2.heap.size x2 y2 w2 (Nat.le_refl _) hx2 hx2' (by omega) (by omega)).mono ?_
  rintro e w3 ⟨v2, r2, rfl, hr2, hown2, hb3⟩
  obtain ⟨a2, c2, rfl, hs2, -⟩ := hown2.suf
  have R2 : Hid (RecText r2 x2 y2) := hr2
  have S1' : Hid (Suf w3 a1 r1.length c1 r1) := S1.out.below hb3
  have S2 : Hid (Suf w3 a2 r2.length c2 r2) := hs2
  have ST3 : Hid (Suf w3 at_ l.length ct l) := ST2.out.below hb3
  have B3 : Hid (Below w.heap.size w w3) := B2.out.trans (hb3.mono B2.out.size)
  clear ST2 S1 B2 hb3 hs2 hown2 hr2
  have q1 := R1.out.len
  have q2 := R2.out.len
  have q3 := HL.out
  obtain ⟨w4, hmk, hown, hb4⟩ := own_made w3.heap.size (r1.length + r2.length + l.length) w3 (Nat.le_refl _) (by omega)
  have hmk' : (Instr.makeSlice 22 (.int .i64 0) (.int .i64 ((r1.length : Int) + (r2.length : Int) + (l.length : Int)))).run Try.prog w3 = .ok (.slice (some ⟨w3.heap.size, 0, none⟩) 0 (r1.length + r2.length + l.length)) w4 := by rw [← hmk]; simp
  clear hmk
  obtain ⟨v5, w5, happ5, hown5, hb5⟩ := hown.append hb4.size 22 _ r1 (S1'.out.below hb4).src S1'.out.byte (by simp; omega)
  have k5 := hb4.trans hb5
  obtain ⟨v6, w6, happ6, hown6, hb6⟩ := hown5.append k5.size 22 _ r2 (S2.out.below k5).src S2.out.byte (by simp; omega)
  have k6 := k5.trans hb6
  obtain ⟨v7, w7, happ7, hown7, hb7⟩ := hown6.append k6.size 22 _ l (ST3.out.below k6).src ST3.out.byte (by simp; omega)
  have k7 := k6.trans hb7
  obtain ⟨wh, hwh⟩ : ∃ wh, wh = r1 ++ (r2 ++ l) := ⟨_, rfl⟩
  have WH : Hid (wh = r1 ++ (r2 ++ l)) := hwh
  have hown7' : Own w7 w3.heap.size v7 wh := by rw [hwh]; simpa [List.append_assoc] using hown7
  clear hwh
  have S2' : Hid (Suf w7 a2 r2.length c2 r2) := S2.out.below k7
  have ST7 : Hid (Suf w7 at_ l.length ct l) := ST3.out.below k7
  have B7 : Hid (Below w.heap.size w w7) := B3.out.trans (k7.mono B3.out.size)
  clear hown hb4 hown5 hb5 k5 hown6 hb6 k6 hown7 hb7 k7 S1' S2 ST3 B3
  obtain ⟨ab, cb, rfl, hsb, -⟩ := hown7'.suf
  have SB7 : Hid (Suf w7 ab wh.length cb wh) := hsb
  clear hsb hown7'
  obtain ⟨w8, hmk, hown, hb8⟩ := own_made w7.heap.size (r2.length + l.length) w7 (Nat.le_refl _) (by omega)
  have hmk2 : (Instr.makeSlice 22 (.int .i64 0) (.int .i64 ((r2.length : Int) + (l.length : Int)))).run Try.prog w7 = .ok (.slice (some ⟨w7.heap.size, 0, none⟩) 0 (r2.length + l.length)) w8 := by rw [← hmk]; simp
  clear hmk
  obtain ⟨v9, w9, happ9, hown9, hb9⟩ := hown.append hb8.size 22 _ r2 (S2'.out.below hb8).src S2'.out.byte (by simp; omega)
  have k9 := hb8.trans hb9
  obtain ⟨v10, w10, happ10, hown10, hb10⟩ := hown9.append k9.size 22 _ l (ST7.out.below k9).src ST7.out.byte (by simp; omega)
  have k10 := k9.trans hb10
  obtain ⟨rf, hrf⟩ : ∃ rf, rf = r2 ++ l := ⟨_, rfl⟩
  have RF : Hid (rf = r2 ++ l) := hrf
  have hown10' : Own w10 w7.heap.size v10 rf := by rw [hrf]; simpa using hown10
  clear hrf
  obtain ⟨af, cf, rfl, hsf, -⟩ := hown10'.suf
  have SF10 : Hid (Suf w10 af rf.length cf rf) := hsf
  have SB10 : Hid (Suf w10 ab wh.length cb wh) := SB7.out.below k10
  have ST10 : Hid (Suf w10 at_ l.length ct l) := ST7.out.below k10
  have B10 : Hid (Below w.heap.size w w10) := B7.out.trans (k10.mono B7.out.size)
  clear hown hb8 hown9 hb9 k9 hown10 hown10' hb10 k10 S2' ST7 SB7 B7 hsf
  go_upto_region 9 with fail
  go_cut [13] from 30 (fun s wc => s = v5 ∧ w5 = wc)
  case first =>
    go_wp2_with (at_builtin; refine wpList_append_run rfl (.tmp 59) _ 22 22 rfl _ _ _ _ rfl rfl happ5 ?_)
    go_meet
    exact ⟨rfl, rfl⟩
  obtain ⟨rfl, rfl⟩ := hcut
  clear happ5 hmk'
  go_upto_region 10 with fail
  go_cut [13] from 30 (fun s wc => s = v6 ∧ w6 = wc)
  case first =>
    go_wp2_with (at_builtin; refine wpList_append_run rfl (.tmp 62) _ 22 22 rfl _ _ _ _ rfl rfl happ6 ?_)
    go_meet
    exact ⟨rfl, rfl⟩
  obtain ⟨rfl, rfl⟩ := hcut
  clear happ6 
  go_upto_region 11 with fail
  go_cut [13] from 30 (fun s wc => s = .slice ab wh.length cb ∧ w7 = wc)
  case first =>
    go_wp2_with (at_builtin; refine wpList_append_run rfl (.tmp 65) _ 22 22 rfl _ _ _ _ rfl rfl happ7 ?_)
    go_meet
    exact ⟨rfl, rfl⟩
  obtain ⟨rfl, rfl⟩ := hcut
  clear happ7 
  go_upto_region 13 with fail
  go_cut [14] from 30 (fun s wc => s = v9 ∧ w9 = wc)
  case first =>
    go_wp2_with (at_builtin; refine wpList_append_run rfl (.tmp 74) _ 22 22 rfl _ _ _ _ rfl rfl happ9 ?_)
    go_meet
    exact ⟨rfl, rfl⟩
  obtain ⟨rfl, rfl⟩ := hcut
  clear happ9 hmk2
  go_upto_region 14 with fail
  go_cut [14] from 30 (fun s wc => s = .slice af rf.length cf ∧ w10 = wc)
  case first =>
    go_wp2_with (at_builtin; refine wpList_append_run rfl (.tmp 77) _ 22 22 rfl _ _ _ _ rfl rfl happ10 ?_)
    go_meet
    exact ⟨rfl, rfl⟩
  obtain ⟨rfl, rfl⟩ := hcut
  clear happ10 
  clear q1 q2 q3
  have hwl : 0 < wh.length ∧ wh.length ≤ 100000000 := by
    have q1 := R1.out.len
    have q2 := R2.out.len
    have q3 := HL.out
    rw [WH.out]
    simp only [List.length_append]
    omega
  go_wp2_with fail
  refine (clone_calls ab wh.length cb wh w10 SB10.out hwl.2).mono ?_
  rintro e w11 ⟨aw, cw, rfl, hsw, hb11, -⟩
  have SW11 : Hid (Suf w11 aw wh.length cw wh) := hsw
  have SF11 : Hid (Suf w11 af rf.length cf rf) := SF10.out.below hb11
  have SB11 : Hid (Suf w11 ab wh.length cb wh) := SB10.out.below hb11
  have ST11 : Hid (Suf w11 at_ l.length ct l) := ST10.out.below hb11
  have B11 : Hid (Below w.heap.size w w11) := B10.out.trans (hb11.mono B10.out.size)
  clear hsw hb11 SF10 SB10 ST10 B10
  go_wp2_with fail
  refine (new_calls ab wh.length cb false w11).mono ?_
  rintro e w12 ⟨rfl, hr12, hb12⟩
  have hap := SB11.out.apart hwl.1
  have K12 : Hid (Below w11.heap.size w11 w12) := hb12
  have RD12 : Hid (Rdr w12 w11.heap.size ab wh.length cb false) := hr12
  have AP : Hid (Apart w11.heap.size ab) := hap
  obtain ⟨R, hR⟩ : ∃ R, R = w11.heap.size := ⟨_, rfl⟩
  have HR : Hid (R = w11.heap.size) := hR
  clear hr12 hap hb12
  rw [← hR] at RD12 AP K12
  rw [← hR]
  have SB12 : Hid (Suf w12 ab wh.length cb wh) := SB11.out.below (by rw [← HR.out]; exact K12.out)
  clear hR SB11
  go_wp2_with fail
  refine (zzEpoch_calls R ab wh.length cb false wh w12 RD12.out SB12.out AP.out).mono ?_
  rintro e w13 ⟨rfl, hL⟩
  have E1 : epoch wh false = (x1, y1, rf, false) := by rw [WH.out, RF.out]; exact rec_epoch R1.out (r2 ++ l) (by omega) (by omega) (by omega) (by omega)
  rw [E1] at hL
  rw [E1]
  dsimp only at hL ⊢
  obtain ⟨⟨ar1, nr1, cr1, hrd, hsr, har⟩, hk13⟩ := hL
  have hnr : rf.length = nr1 := hsr.len
  subst hnr
  have RD13 : Hid (Rdr w13 R ar1 rf.length cr1 false) := hrd
  have SR13 : Hid (Suf w13 ar1 rf.length cr1 rf) := hsr
  have AP1 : Hid (Apart R ar1) := har
  have K13 : Hid (Below R w11 w13) := K12.out.trans (hk13.below (by rw [HR.out]; exact K12.out.size) (Nat.le_refl _))
  clear hrd hsr har hk13 K12 RD12 AP SB12 E1
  go_wp2_with fail
  refine (rest_calls R ar1 rf.length cr1 false w13 RD13.out).mono ?_
  rintro e w14 ⟨rfl, rfl⟩
  go_wp2_with fail
  refine (failed_calls R ar1 rf.length cr1 false w13 RD13.out).mono ?_
  rintro e w14 ⟨rfl, rfl⟩
  go_wp2_with fail
  refine (zzEpoch_calls R ar1 rf.length cr1 false rf w13 RD13.out SR13.out AP1.out).mono ?_
  rintro e w14 ⟨rfl, hL⟩
  have E1 : epoch rf false = (x2, y2, l, false) := by rw [RF.out]; exact rec_epoch R2.out l (by omega) (by omega) (by omega) (by omega)
  rw [E1] at hL
  rw [E1]
  dsimp only at hL ⊢
  obtain ⟨⟨ar2, nr2, cr2, hrd, hsr, har⟩, hk14⟩ := hL
  have hnr : l.length = nr2 := hsr.len
  subst hnr
  have RD14 : Hid (Rdr w14 R ar2 l.length cr2 false) := hrd
  have S214 : Hid (Suf w14 ar2 l.length cr2 l) := hsr
  have S114 : Hid (Suf w14 ar1 rf.length cr1 rf) := SR13.out.keep hk14 AP1.out
  have K14 : Hid (Below R w11 w14) := K13.out.trans (hk14.below (by rw [HR.out]; exact K13.out.size) (Nat.le_refl _))
  clear hrd hsr har hk14 K13 RD13 AP1 SR13 E1
  go_wp2_with fail
  refine (rest_calls R ar2 l.length cr2 false w14 RD14.out).mono ?_
  rintro e w15 ⟨rfl, rfl⟩
  go_wp2_with fail
  refine (failed_calls R ar2 l.length cr2 false w14 RD14.out).mono ?_
  rintro e w15 ⟨rfl, rfl⟩
  have hKK : Below w11.heap.size w11 w14 := by rw [← HR.out]; exact K14.out
  have SW14 : Hid (Suf w14 aw wh.length cw wh) := SW11.out.below hKK
  have SF14 : Hid (Suf w14 af rf.length cf rf) := SF11.out.below hKK
  have ST14 : Hid (Suf w14 at_ l.length ct l) := ST11.out.below hKK
  have B14 : Hid (Below w.heap.size w w14) := B11.out.trans (hKK.mono B11.out.size)
  clear hKK K14 SW11 SF11 ST11 B11 RD14
  go_wp2_with fail
  refine (clone_calls aw wh.length cw wh w14 SW14.out hwl.2).mono ?_
  rintro e w15 ⟨ad, cd, rfl, hsd, hb15, -⟩
  have SD15 : Hid (Suf w15 ad wh.length cd wh) := hsd
  have SW15 : Hid (Suf w15 aw wh.length cw wh) := SW14.out.below hb15
  have SF15 : Hid (Suf w15 af rf.length cf rf) := SF14.out.below hb15
  have ST15 : Hid (Suf w15 at_ l.length ct l) := ST14.out.below hb15
  have S115 : Hid (Suf w15 ar1 rf.length cr1 rf) := S114.out.below hb15
  have S215 : Hid (Suf w15 ar2 l.length cr2 l) := S214.out.below hb15
  have B15 : Hid (Below w.heap.size w w15) := B14.out.trans (hb15.mono B14.out.size)
  clear hsd hb15 SW14 SF14 ST14 S114 S214 B14
  go_wp2_with fail
  refine (new_calls ad wh.length cd true w15).mono ?_
  rintro e w16 ⟨rfl, hr16, hb16⟩
  have hap := SD15.out.apart hwl.1
  have RD16 : Hid (Rdr w16 w15.heap.size ad wh.length cd true) := hr16
  have AP2 : Hid (Apart w15.heap.size ad) := hap
  have K16 : Hid (Below w15.heap.size w15 w16) := hb16
  obtain ⟨R', hR'⟩ : ∃ R', R' = w15.heap.size := ⟨_, rfl⟩
  have HR' : Hid (R' = w15.heap.size) := hR'
  clear hr16 hap hb16
  rw [← hR'] at RD16 AP2 K16
  rw [← hR']
  have SD16 : Hid (Suf w16 ad wh.length cd wh) := SD15.out.below (by rw [← HR'.out]; exact K16.out)
  clear hR' SD15
  go_wp2_with fail
  refine (zzEpoch_calls R' ad wh.length cd true wh w16 RD16.out SD16.out AP2.out).mono ?_
  rintro e w17 ⟨rfl, hL⟩
  rw [read_failed] at hL
  rw [read_failed]
  dsimp only at hL ⊢
  obtain ⟨⟨ar3, nr3, cr3, hrd, hsr, har⟩, hk17⟩ := hL
  have hnr : wh.length = nr3 := hsr.len
  subst hnr
  have RD17 : Hid (Rdr w17 R' ar3 wh.length cr3 true) := hrd
  have S317 : Hid (Suf w17 ar3 wh.length cr3 wh) := hsr
  have hKK : Below w15.heap.size w15 w17 := by rw [← HR'.out]; exact K16.out.trans (hk17.below (by rw [HR'.out]; exact K16.out.size) (Nat.le_refl _))
  have SW17 : Hid (Suf w17 aw wh.length cw wh) := SW15.out.below hKK
  have SF17 : Hid (Suf w17 af rf.length cf rf) := SF15.out.below hKK
  have ST17 : Hid (Suf w17 at_ l.length ct l) := ST15.out.below hKK
  have S117 : Hid (Suf w17 ar1 rf.length cr1 rf) := S115.out.below hKK
  have S217 : Hid (Suf w17 ar2 l.length cr2 l) := S215.out.below hKK
  have B17 : Hid (Below w.heap.size w w17) := B15.out.trans (hKK.mono B15.out.size)
  clear hrd hsr har hk17 hKK K16 RD16 AP2 SD16 SW15 SF15 ST15 S115 S215 B15
  go_wp2_with fail
  refine (rest_calls R' ar3 wh.length cr3 true w17 RD17.out).mono ?_
  rintro e w18 ⟨rfl, rfl⟩
  go_wp2_with fail
  refine (failed_calls R' ar3 wh.length cr3 true w17 RD17.out).mono ?_
  rintro e w18 ⟨rfl, rfl⟩
  clear RD17
  go_wp2_with fail
  refine (equal_calls ar1 rf.length cr1 rf af rf.length cf rf w17 S117.out SF17.out).mono ?_
  rintro e w18 ⟨rfl, hs18⟩
  rw [show (rf == rf) = true from beq_self_eq_true rf]
  have ST18 : Hid (Suf w18 at_ l.length ct l) := ST17.out.below (hs18.below _)
  have S218 : Hid (Suf w18 ar2 l.length cr2 l) := S217.out.below (hs18.below _)
  have S318 : Hid (Suf w18 ar3 wh.length cr3 wh) := S317.out.below (hs18.below _)
  have SW18 : Hid (Suf w18 aw wh.length cw wh) := SW17.out.below (hs18.below _)
  have B18 : Hid (Below w.heap.size w w18) := B17.out.trans (hs18.below _)
  clear hs18 ST17 S217 S317 SW17 B17 S117 SF17
  go_wp2_with fail
  refine (equal_calls ar2 l.length cr2 l at_ l.length ct l w18 S218.out ST18.out).mono ?_
  rintro e w19 ⟨rfl, hs19⟩
  rw [show (l == l) = true from beq_self_eq_true l]
  have S319 : Hid (Suf w19 ar3 wh.length cr3 wh) := S318.out.below (hs19.below _)
  have SW19 : Hid (Suf w19 aw wh.length cw wh) := SW18.out.below (hs19.below _)
  have B19 : Hid (Below w.heap.size w w19) := B18.out.trans (hs19.below _)
  clear hs19 ST18 S218 S318 SW18 B18
  go_wp2_with fail
  refine (equal_calls ar3 wh.length cr3 wh aw wh.length cw wh w19 S319.out SW19.out).mono ?_
  rintro e w20 ⟨rfl, hs20⟩
  rw [show (wh == wh) = true from beq_self_eq_true wh]
  have B20 : Hid (Below w.heap.size w w20) := B19.out.trans (hs20.below _)
  clear hs20 S319 SW19 B19
  go_wp2
  go_ret
  exact ⟨rfl, B20.out⟩
end Go.Proofs.Qxb6625651a
