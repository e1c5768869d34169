import Derived.Test.Qxb6613719aDoorLaw4T
namespace Go.Proofs.Qxb6613719aDoor
open Go.RowKit
set_option linter.unusedVariables false
theorem RowO.of_src4 {w : World} {k : IntKind} {a : Option Addr} {zs : List Int} (h : Src w k a zs) : RowO w k a zs :=
  ⟨fun j z hj => by
    have h0 : 0 < zs.length := by
      rcases Nat.lt_or_ge j zs.length with h | h
      · omega
      · rw [List.getElem?_eq_none h] at hj; cases hj
    obtain ⟨⟨b, off, spot⟩, ha, hc⟩ := h.look 0 _ (getD_some h0)
    have hs : spot = none := by simpa [Addr.add] using World.cell?_spot hc
    subst hs
    obtain ⟨ad, ha', hc'⟩ := h.look j z hj
    rw [ha] at ha'
    cases ha'
    exact ⟨b, off, ha, by rw [← addr_add]; exact hc'⟩⟩

set_option maxRecDepth 1000000 in
set_option maxHeartbeats 4000000 in
theorem law4_A (a0 a3 a4 a5 a6 a7 : Option Addr) (c0 c3 c4 c5 c6 c7 : Nat) (M F C J P E : List Int) (gen start pos en pos2 en2 : Int) (w : World)
    (sM : Src w .i64 a0 M) (sF : Src w .u64 a3 F) (sC : Src w .u64 a4 C) (sJ : Src w .i32 a5 J) (sP : Src w .i32 a6 P) (sE : Src w .i64 a7 E)
    (lM : M.length ≤ 16384) (lF : F.length ≤ 4096) (lC : C.length ≤ 4096) (lJ : J.length ≤ 16384) (lP : P.length ≤ 16384) (lE : E.length = P.length) 
    (bF : ∀ j : Nat, 0 ≤ F[j]?.getD 0 ∧ F[j]?.getD 0 ≤ 18446744073709551615) (bC : ∀ j : Nat, 0 ≤ C[j]?.getD 0 ∧ C[j]?.getD 0 ≤ 18446744073709551615) (bP : ∀ j : Nat, -2147483648 ≤ P[j]?.getD 0 ∧ P[j]?.getD 0 ≤ 2147483647) (hpos : -2147483648 ≤ pos ∧ pos ≤ 2147483647) (hpos2 : -2147483648 ≤ pos2 ∧ pos2 ≤ 2147483647) :
    Calls Tryd.prog 4 #[.slice a0 M.length c0, .int .i64 gen, .int .i64 start, .slice a3 F.length c3, .slice a4 C.length c4, .slice a5 J.length c5, .slice a6 P.length c6, .slice a7 E.length c7, .int .i32 pos, .int .i64 en, .int .i32 pos2, .int .i64 en2] w
      fun e w' => e = .returned (.bool true) ∧ Below w.heap.size w w' := by
  have g1 : decide ((16384 : Int) < (M.length : Int)) = false := decide_eq_false (by omega)
  have g2 : decide ((4096 : Int) < (F.length : Int)) = false := decide_eq_false (by omega)
  have g3 : decide ((4096 : Int) < (C.length : Int)) = false := decide_eq_false (by omega)
  have g4 : decide ((16384 : Int) < (J.length : Int)) = false := decide_eq_false (by omega)
  have g5 : decide ((16384 : Int) < (P.length : Int)) = false := decide_eq_false (by omega)
  have g6 : decide ((16384 : Int) < (E.length : Int)) = false := decide_eq_false (by omega)
  have g7 : ((P.length : Int) != (E.length : Int)) = false := by rw [lE]; simp
  have HE : Hid (E.length = P.length) := lE
  have lE' : E.length ≤ 16384 := by omega
  have HH : Hid ((∀ j : Nat, 0 ≤ F[j]?.getD 0 ∧ F[j]?.getD 0 ≤ 18446744073709551615) ∧ (∀ j : Nat, 0 ≤ C[j]?.getD 0 ∧ C[j]?.getD 0 ≤ 18446744073709551615) ∧ (∀ j : Nat, -2147483648 ≤ P[j]?.getD 0 ∧ P[j]?.getD 0 ≤ 2147483647) ∧ (-2147483648 ≤ pos ∧ pos ≤ 2147483647) ∧ (-2147483648 ≤ pos2 ∧ pos2 ≤ 2147483647)) := ⟨bF, bC, bP, hpos, hpos2⟩
  clear lE bF bC bP hpos hpos2
  go_enter Tryd.func4, Tryd.ntmps4
  go_wp2_with fail
  refine (bytes14_any _ _ _ _ _ _ _ _ _ _ _ _ _ _ _ _ _ _ _ _ _ _ _ _ _).mono ?_
  rintro e w' ⟨r, rfl, hw'⟩
  rw [hw']
  clear hw' w'
  cases r
  · go_wp2_with fail
    go_ret
    exact ⟨rfl, Below.refl _ _⟩
  go_upto_if 100 with fail
  go_step
  go_step
  go_step
  go_step
  go_step
  go_cut [3] from 54 to 109 (fun s wc => Copied w wc .u64 s F)
  case first =>
    cases a3 with
    | none =>
      go_wp2_with fail
      go_meet
      case rel => exact copied_none .u64 (sF) 
    | some x =>
      obtain ⟨w1, w2, r1, r2, cp⟩ := copied (c := c3) sF 23 38 8 Tryd.underlying23 Tryd.info38 Tryd.size38 (by omega) (by omega)
      go_wp2_with fail
      go_meet
      case rel => exact cp
  case rest =>
  rename World => W1
  obtain ⟨⟨fa, fc, rfl, rF, qF⟩, b1⟩ := hcut
  have B1 := b1
  replace sC := sC.below b1
  replace sJ := sJ.below b1
  replace sP := sP.below b1
  replace sE := sE.below b1
  go_step
  go_step
  go_cut [4] from 54 to 118 (fun s wc => Copied W1 wc .u64 s C)
  case first =>
    cases a4 with
    | none =>
      go_wp2_with fail
      go_meet
      case rel => exact copied_none .u64 (sC) 
    | some x =>
      obtain ⟨w1, w2, r1, r2, cp⟩ := copied (c := c4) sC 23 38 8 Tryd.underlying23 Tryd.info38 Tryd.size38 (by omega) (by omega)
      go_wp2_with fail
      go_meet
      case rel => exact cp
  case rest =>
  rename World => W2
  obtain ⟨⟨ca, cc, rfl, rC, qC⟩, b2⟩ := hcut
  have B2 : Below w.heap.size w W2 := B1.trans (b2.mono B1.size)
  replace sJ := sJ.below b2
  replace sP := sP.below b2
  replace sE := sE.below b2
  replace rF := rF.below b2
  go_step
  go_step
  go_cut [5] from 54 to 127 (fun s wc => Copied W2 wc .i32 s J)
  case first =>
    cases a5 with
    | none =>
      go_wp2_with fail
      go_meet
      case rel => exact copied_none .i32 (sJ) 
    | some x =>
      obtain ⟨w1, w2, r1, r2, cp⟩ := copied (c := c5) sJ 24 21 4 Tryd.underlying24 Tryd.info21 Tryd.size21 (by omega) (by omega)
      go_wp2_with fail
      go_meet
      case rel => exact cp
  case rest =>
  rename World => W3
  obtain ⟨⟨ja, jc, rfl, rJ, qJ⟩, b3⟩ := hcut
  have B3 : Below w.heap.size w W3 := B2.trans (b3.mono B2.size)
  replace sP := sP.below b3
  replace sE := sE.below b3
  replace rF := rF.below b3
  replace rC := rC.below b3
  go_step
  go_step
  go_cut [6] from 54 to 136 (fun s wc => Copied W3 wc .i32 s P)
  case first =>
    cases a6 with
    | none =>
      go_wp2_with fail
      go_meet
      case rel => exact copied_none .i32 (sP) 
    | some x =>
      obtain ⟨w1, w2, r1, r2, cp⟩ := copied (c := c6) sP 24 21 4 Tryd.underlying24 Tryd.info21 Tryd.size21 (by omega) (by omega)
      go_wp2_with fail
      go_meet
      case rel => exact cp
  case rest =>
  rename World => W4
  obtain ⟨⟨pa, pc, rfl, rP, qP⟩, b4⟩ := hcut
  have B4 : Below w.heap.size w W4 := B3.trans (b4.mono B3.size)
  replace sE := sE.below b4
  replace rF := rF.below b4
  replace rC := rC.below b4
  replace rJ := rJ.below b4
  go_step
  go_step
  go_cut [7] from 54 to 145 (fun s wc => Copied W4 wc .i64 s E)
  case first =>
    cases a7 with
    | none =>
      go_wp2_with fail
      go_meet
      case rel => exact copied_none .i64 (sE) 
    | some x =>
      obtain ⟨w1, w2, r1, r2, cp⟩ := copied (c := c7) sE 22 3 8 Tryd.underlying22 Tryd.info3 Tryd.size3 (by omega) (by omega)
      go_wp2_with fail
      go_meet
      case rel => exact cp
  case rest =>
  rename World => W5
  obtain ⟨⟨ea, ec, hs5, rE, qE⟩, b5⟩ := hcut
  rw [HE.out] at hs5
  subst hs5
  have B5 : Below w.heap.size w W5 := B4.trans (b5.mono B4.size)
  replace rF := rF.below b5
  replace rC := rC.below b5
  replace rJ := rJ.below b5
  replace rP := rP.below b5
  go_step
  exact law4_T29 a0 fa ca ja pa ea c0 fc cc jc pc ec M F C J P E gen start en en2 pos pos2 w W5 B5 ((RowO.of_src4 sM).below B5) sM.nil rF rC rJ rP rE (fun q hq => by have := qF q hq; have := b2.size; have := b3.size; have := b4.size; have := b5.size; omega) (fun q hq => by have := qC q hq; have := b3.size; have := b4.size; have := b5.size; omega)
    (fun q hq => by have := qJ q hq; have := b4.size; have := b5.size; omega) (fun q hq => by have := qP q hq; have := b5.size; omega) (fun q hq => (qE q hq).2) ⟨HH.out.1, HH.out.2.1, HH.out.2.2.1, HE.out⟩ lM lF lC lJ lP HH.out.2.2.2.1 HH.out.2.2.2.2 _ _ _ _ _ _ _ _ _ _ _ _ _ _ _ _ _ _ _ _ _ _ _ _ _ _ _ _ _ _ _ _ _ _ _ _ _ _ _ _ _ _ _ _ _ _ _ _ _ _ _ _ _ _ _ _ _ _ _ _ _ _ _ _ _ _ _ _ _ _ _ _ _ _ _ _ _ _ _ _ _ _ _ _ _ _ _ _ _ _ _ _ _ _ _ _ _ _

set_option maxRecDepth 1000000 in
set_option maxHeartbeats 4000000 in
theorem law4_out (a0 a3 a4 a5 a6 a7 : Option Addr) (n0 n3 n4 n5 n6 n7 c0 c3 c4 c5 c6 c7 : Nat) (gen start pos en pos2 en2 : Int) (w : World)
    (h : 16384 < n0 ∨ 4096 < n3 ∨ 4096 < n4 ∨ 16384 < n5 ∨ 16384 < n6 ∨ 16384 < n7 ∨ n6 ≠ n7) :
    Calls Tryd.prog 4 #[.slice a0 n0 c0, .int .i64 gen, .int .i64 start, .slice a3 n3 c3, .slice a4 n4 c4, .slice a5 n5 c5, .slice a6 n6 c6, .slice a7 n7 c7, .int .i32 pos, .int .i64 en, .int .i32 pos2, .int .i64 en2] w
      fun e w' => e = .returned (.bool true) ∧ Below w.heap.size w w' := by
  go_enter Tryd.func4, Tryd.ntmps4
  go_wp2_with fail
  refine (bytes14_any _ _ _ _ _ _ _ _ _ _ _ _ _ _ _ _ _ _ _ _ _ _ _ _ _).mono ?_
  rintro e w' ⟨r, rfl, hw'⟩
  rw [hw']
  clear hw' w'
  cases r
  · clear h
    go_wp2_with fail
    go_ret
    exact ⟨rfl, Below.refl _ _⟩
  by_cases h0 : 16384 < n0
  · have g : decide ((16384 : Int) < (n0 : Int)) = true := decide_eq_true (by omega)
    clear h
    go_wp2_with fail
    go_ret
    exact ⟨rfl, Below.refl _ _⟩
  have g0 : decide ((16384 : Int) < (n0 : Int)) = false := decide_eq_false (by omega)
  by_cases h3 : 4096 < n3
  · have g : decide ((4096 : Int) < (n3 : Int)) = true := decide_eq_true (by omega)
    clear h
    go_wp2_with fail
    go_ret
    exact ⟨rfl, Below.refl _ _⟩
  have g3 : decide ((4096 : Int) < (n3 : Int)) = false := decide_eq_false (by omega)
  by_cases h4 : 4096 < n4
  · have g : decide ((4096 : Int) < (n4 : Int)) = true := decide_eq_true (by omega)
    clear h
    go_wp2_with fail
    go_ret
    exact ⟨rfl, Below.refl _ _⟩
  have g4 : decide ((4096 : Int) < (n4 : Int)) = false := decide_eq_false (by omega)
  by_cases h5 : 16384 < n5
  · have g : decide ((16384 : Int) < (n5 : Int)) = true := decide_eq_true (by omega)
    clear h
    go_wp2_with fail
    go_ret
    exact ⟨rfl, Below.refl _ _⟩
  have g5 : decide ((16384 : Int) < (n5 : Int)) = false := decide_eq_false (by omega)
  by_cases h6 : 16384 < n6
  · have g : decide ((16384 : Int) < (n6 : Int)) = true := decide_eq_true (by omega)
    clear h
    go_wp2_with fail
    go_ret
    exact ⟨rfl, Below.refl _ _⟩
  have g6 : decide ((16384 : Int) < (n6 : Int)) = false := decide_eq_false (by omega)
  by_cases h7 : 16384 < n7
  · have g : decide ((16384 : Int) < (n7 : Int)) = true := decide_eq_true (by omega)
    clear h
    go_wp2_with fail
    go_ret
    exact ⟨rfl, Below.refl _ _⟩
  have g7 : decide ((16384 : Int) < (n7 : Int)) = false := decide_eq_false (by omega)
  have g8 : ((n6 : Int) != (n7 : Int)) = true := by rw [bne_iff_ne]; omega
  clear h
  go_wp2_with fail
  go_ret
  exact ⟨rfl, Below.refl _ _⟩
end Go.Proofs.Qxb6613719aDoor
