/-
  The walk of peModel.
-/
import Derived.Test.Qxb6625651aNum
import Derived.Test.Qxb6625651aMdl
namespace Go.Proofs.Qxb6625651a
open Go.ChangeShapes Go.WideShapes Go.ChangeAt Go.RowKit
set_option linter.unusedVariables false

theorem results_tmp4 {fn : Func} {t s r v : Tmp} (h : fn.results = #[.tmp t, .tmp s, .tmp r, .tmp v]) (tmps : Array Value) (P : Program) (w : World) :
    (results fn tmps).run P w = .ok (.tuple #[tmps.getD t undef, tmps.getD s undef, tmps.getD r undef, tmps.getD v undef]) w := by
  simp [results, h]

/-- What peModel answers. -/
def Mdld (l : List Nat) (f : Bool) (w : World) (e : Ending) (w' : World) : Prop :=
  e = .returned (.tuple #[.int .i64 (mdl l f).1, .int .i16 (mdl l f).2.1, .int .i64 ((mdl l f).2.2.1 : Int), .bool (mdl l f).2.2.2]) ∧ Same w w'
theorem Mdld.of {l : List Nat} {f : Bool} {w w' : World} (x y : Int) (o : Nat) (g : Bool) (h : mdl l f = (x, y, o, g)) (hs : Same w w') : Mdld l f w (.returned (.tuple #[.int .i64 x, .int .i16 y, .int .i64 (o : Int), .bool g])) w' :=
  ⟨by rw [h], hs⟩
theorem Same.trans {a b c : World} (h : Same a b) (k : Same b c) : Same a c := ⟨k.heap.trans h.heap, k.os.trans h.os, k.tape.trans h.tape, k.output.trans h.output⟩

set_option maxHeartbeats 4000000 in
set_option maxRecDepth 100000 in
theorem model_calls (a : Option Addr) (n c : Nat) (l : List Nat) (f : Bool) (w : World) (hs : Suf w a n c l) (hn : n ≤ 1048576) :
    Calls Try.prog 11 #[.slice a n c, .bool f] w fun e w' => Mdld l f w e w' := by
  have HS : Hid (Suf w a n c l) := hs
  have HLE : Hid (l.length = n) := hs.len
  clear hs
  cases f with
  | true =>
    have HM : Hid (Mdld l true w (.returned (.tuple #[.int .i64 0, .int .i16 0, .int .i64 0, .bool true])) w) := Mdld.of 0 0 0 true rfl (Same.refl w)
    go_enter Try.func11, Try.ntmps11
    go_wp2
    try simp only [Exit.inBlock, Exit.then]
    refine bodyPost_ret (results_tmp4 rfl _ _ _) rfl ?_
    exact HM.out
  | false =>
    go_enter Try.func11, Try.ntmps11
    go_wp2_with fail
    refine (hasAt_calls a n c l 0 txtOpen w HS.out (Nat.zero_le _) (by decide) (by decide)).mono ?_
    rintro e w1 ⟨rfl, hsm1⟩
    have SM1 : Hid (Same w w1) := hsm1
    have S1 : Hid (Suf w1 a n c l) := HS.out.below (hsm1.below _)
    clear HS hsm1
    obtain ⟨b1, hb1⟩ : ∃ b1, b1 = txtOpen.isPrefixOf (l.drop 0) := ⟨_, rfl⟩
    have H1 : Hid (b1 = txtOpen.isPrefixOf (l.drop 0)) := hb1
    rw [← hb1]
    clear hb1
    cases b1 with
    | false =>
      have HM : Hid (Mdld l false w (.returned (.tuple #[.int .i64 0, .int .i16 0, .int .i64 0, .bool true])) w1) := Mdld.of 0 0 0 true (by unfold mdl; rw [← H1.out]; rfl) SM1.out
      go_wp2
      try simp only [Exit.inBlock, Exit.then]
      refine bodyPost_ret (results_tmp4 rfl _ _ _) rfl ?_
      exact HM.out
    | true =>
      have f1 : 15 ≤ n := by rw [← HLE.out]; exact pre_fit _ _ _ H1.out.symm (Nat.zero_le _)
      go_wp2_with fail
      refine (numeral_calls 64 (Or.inl rfl) a n c l 15 w1 S1.out f1 hn).mono ?_
      rintro e w2 ⟨rfl, hsm2⟩
      have SM2 : Hid (Same w w2) := SM1.out.trans hsm2
      have S2 : Hid (Suf w2 a n c l) := S1.out.below (hsm2.below _)
      clear SM1 S1 hsm2
      have f2 : 15 + (numRes 64 (l.drop 15)).2.1 ≤ n := by rw [← HLE.out]; exact res_fit 64 l 15 (by rw [HLE.out]; exact f1)
      obtain ⟨r, hr⟩ : ∃ r, r = numRes 64 (l.drop 15) := ⟨_, rfl⟩
      have HR : Hid (r = numRes 64 (l.drop 15)) := hr
      rw [← hr] at f2
      rw [← hr]
      clear hr
      obtain ⟨id, wd, ok⟩ := r
      dsimp only at f2 ⊢
      cases ok with
      | false =>
        have HM : Hid (Mdld l false w (.returned (.tuple #[.int .i64 0, .int .i16 0, .int .i64 15, .bool true])) w2) := Mdld.of 0 0 15 true (by unfold mdl; rw [← H1.out, ← HR.out]; rfl) SM2.out
        go_wp2
        try simp only [Exit.inBlock, Exit.then]
        refine bodyPost_ret (results_tmp4 rfl _ _ _) rfl ?_
        exact HM.out
      | true =>
        go_wp2_with fail
        rw [show (15 : Int) + (wd : Int) = ((15 + wd : Nat) : Int) from rfl]
        obtain ⟨o2, ho2⟩ : ∃ o2, o2 = 15 + wd := ⟨_, rfl⟩
        rw [← ho2] at f2
        rw [← ho2]
        have HO : Hid (o2 = 15 + wd) := ho2
        clear ho2
        refine (hasAt_calls a n c l o2 txtMid w2 S2.out f2 (by decide) (by decide)).mono ?_
        rintro e w3 ⟨rfl, hsm3⟩
        have SM3 : Hid (Same w w3) := SM2.out.trans hsm3
        have S3 : Hid (Suf w3 a n c l) := S2.out.below (hsm3.below _)
        clear SM2 S2 hsm3
        obtain ⟨b3, hb3⟩ : ∃ b3, b3 = txtMid.isPrefixOf (l.drop o2) := ⟨_, rfl⟩
        have H3 : Hid (b3 = txtMid.isPrefixOf (l.drop o2)) := hb3
        rw [← hb3]
        clear hb3
        cases b3 with
        | false =>
          have HM : Hid (Mdld l false w (.returned (.tuple #[.int .i64 id, .int .i16 0, .int .i64 (o2 : Int), .bool true])) w3) := Mdld.of id 0 o2 true (by unfold mdl; rw [← H1.out, ← HR.out]; dsimp only; rw [← HO.out, ← H3.out]; rfl) SM3.out
          go_wp2
          try simp only [Exit.inBlock, Exit.then]
          refine bodyPost_ret (results_tmp4 rfl _ _ _) rfl ?_
          exact HM.out
        | true =>
          have f3 : o2 + 9 ≤ n := by rw [← HLE.out]; exact pre_fit _ _ _ H3.out.symm (by rw [HLE.out]; exact f2)
          go_wp2_with fail
          rw [show (o2 : Int) + 9 = ((o2 + 9 : Nat) : Int) from rfl]
          obtain ⟨o3, ho3⟩ : ∃ o3, o3 = o2 + 9 := ⟨_, rfl⟩
          rw [← ho3] at f3
          rw [← ho3]
          have HO3 : Hid (o3 = o2 + 9) := ho3
          clear ho3
          refine (numeral_calls 16 (Or.inr rfl) a n c l o3 w3 S3.out f3 hn).mono ?_
          rintro e w4 ⟨rfl, hsm4⟩
          have SM4 : Hid (Same w w4) := SM3.out.trans hsm4
          have S4 : Hid (Suf w4 a n c l) := S3.out.below (hsm4.below _)
          clear SM3 S3 hsm4
          have f4 : o3 + (numRes 16 (l.drop o3)).2.1 ≤ n := by rw [← HLE.out]; exact res_fit 16 l o3 (by rw [HLE.out]; exact f3)
          have g4 := res_range (l.drop o3)
          obtain ⟨q, hq⟩ : ∃ q, q = numRes 16 (l.drop o3) := ⟨_, rfl⟩
          have HQ : Hid (q = numRes 16 (l.drop o3)) := hq
          rw [← hq] at f4 g4
          rw [← hq]
          clear hq
          obtain ⟨ep, wd2, ok2⟩ := q
          dsimp only at f4 g4 ⊢
          obtain ⟨g4, g5⟩ := g4
          cases ok2 with
          | false =>
            have HM : Hid (Mdld l false w (.returned (.tuple #[.int .i64 id, .int .i16 0, .int .i64 (o3 : Int), .bool true])) w4) := Mdld.of id 0 o3 true (by unfold mdl; rw [← H1.out, ← HR.out]; dsimp only; rw [← HO.out, ← H3.out, ← HO3.out, ← HQ.out]; rfl) SM4.out
            go_wp2
            try simp only [Exit.inBlock, Exit.then]
            refine bodyPost_ret (results_tmp4 rfl _ _ _) rfl ?_
            exact HM.out
          | true =>
            go_wp2_with fail
            rw [show (o3 : Int) + (wd2 : Int) = ((o3 + wd2 : Nat) : Int) from rfl]
            obtain ⟨o4, ho4⟩ : ∃ o4, o4 = o3 + wd2 := ⟨_, rfl⟩
            rw [← ho4] at f4
            rw [← ho4]
            have HO4 : Hid (o4 = o3 + wd2) := ho4
            clear ho4
            refine (hasAt_calls a n c l o4 txtClose w4 S4.out f4 (by decide) (by decide)).mono ?_
            rintro e w5 ⟨rfl, hsm5⟩
            have SM5 : Hid (Same w w5) := SM4.out.trans hsm5
            clear SM4 S4 hsm5
            obtain ⟨b5, hb5⟩ : ∃ b5, b5 = txtClose.isPrefixOf (l.drop o4) := ⟨_, rfl⟩
            have H5 : Hid (b5 = txtClose.isPrefixOf (l.drop o4)) := hb5
            rw [← hb5]
            clear hb5
            cases b5 with
            | false =>
              have HM : Hid (Mdld l false w (.returned (.tuple #[.int .i64 id, .int .i16 ep, .int .i64 (o4 : Int), .bool true])) w5) := Mdld.of id ep o4 true (by unfold mdl; rw [← H1.out, ← HR.out]; dsimp only; rw [← HO.out, ← H3.out, ← HO3.out, ← HQ.out]; dsimp only; rw [← HO4.out, ← H5.out]; rfl) SM5.out
              go_wp2
              try simp only [Exit.inBlock, Exit.then]
              refine bodyPost_ret (results_tmp4 rfl _ _ _) rfl ?_
              exact HM.out
            | true =>
              have HM : Hid (Mdld l false w (.returned (.tuple #[.int .i64 id, .int .i16 ep, .int .i64 ((o4 : Int) + 1), .bool false])) w5) := Mdld.of id ep (o4 + 1) false (by unfold mdl; rw [← H1.out, ← HR.out]; dsimp only; rw [← HO.out, ← H3.out, ← HO3.out, ← HQ.out]; dsimp only; rw [← HO4.out, ← H5.out]; rfl) SM5.out
              go_wp2
              try simp only [Exit.inBlock, Exit.then]
              refine bodyPost_ret (results_tmp4 rfl _ _ _) rfl ?_
              exact HM.out
end Go.Proofs.Qxb6625651a
