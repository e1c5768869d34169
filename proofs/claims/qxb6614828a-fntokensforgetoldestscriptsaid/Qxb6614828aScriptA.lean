import Derived.Test.Qxb6614828aScriptB
namespace Go.Proofs.Qxb6614828a
open Go.RowKit
set_option linter.unusedVariables false
set_option maxRecDepth 1000000 in
set_option maxHeartbeats 4000000 in
theorem law5_A (a a1 : Option Addr) (n c c1 : Nat) (keep : Int) (L : Nat → ByteArray × Int × Int) (O : List Int) (w : World) (E : Ents w a L n) (EO : Ints w a1 O) :
    Calls Try.prog 5 #[.slice a n c, .slice a1 O.length c1, .int .i64 keep] w fun e w' => e = .returned (.bool true) ∧ Below w.heap.size w w' := by
  have C12 := bytes12_any a a1 n c O.length c1 (.int .i64 keep) L w E
  have HE : Hid (Ents w a L n) := E
  have HO : Hid (Ints w a1 O) := EO
  clear E EO
  go_enter Try.func5, Try.ntmps5
  go_wp2_with fail
  refine C12.mono ?_
  rintro e w' ⟨hb, hw'⟩
  rw [hw']
  clear hw' w' C12
  rcases hb with rfl | ⟨rfl, hsh⟩
  · go_wp2_with fail
    go_ret
    exact ⟨rfl, Below.refl _ _⟩
  have HS : Hid (Short L n) := hsh
  clear hsh
  by_cases ho : (4096 : Int) < (O.length : Int)
  · have d : decide ((4096 : Int) < (O.length : Int)) = true := decide_eq_true ho
    go_wp2_with fail
    go_ret
    exact ⟨rfl, Below.refl _ _⟩
  have d : decide ((4096 : Int) < (O.length : Int)) = false := decide_eq_false ho
  have C13 := tooBig_any a n c (8 * (O.length : Int)) (by omega) (by omega) L w HE.out HS.out
  go_wp2_with fail
  refine C13.mono ?_
  rintro e w' ⟨hb, hw'⟩
  rw [hw']
  clear hw' w' C13
  rcases hb with rfl | ⟨rfl, hn⟩
  · go_wp2_with fail
    go_ret
    exact ⟨rfl, Below.refl _ _⟩
  by_cases hk : keep < 0
  · have d2 : decide (keep < 0) = true := decide_eq_true hk
    go_wp2_with fail
    go_ret
    exact ⟨rfl, Below.refl _ _⟩
  have d2 : decide (keep < 0) = false := decide_eq_false hk
  have C14 := canonical_any a n c L w HE.out hn
  go_wp2_with fail
  refine C14.mono ?_
  rintro e w1 ⟨rfl, H0, z1, b1⟩
  clear C14
  obtain ⟨w2, r2, H1, z2, b2⟩ := make_has (P := Try.prog) w1 36 3 (.int .i64 0) 8 n Try.underlying36 info3 rfl (by omega) (by omega)
  obtain ⟨w3, r3, H2, z3, b3⟩ := make_cap w2 n hn
  have C15 := newTokens_any w3 L
  obtain ⟨g0, hg0⟩ : ∃ g0, g0 = w.heap.size := ⟨_, rfl⟩
  obtain ⟨g1, hg1⟩ : ∃ g1, g1 = w1.heap.size := ⟨_, rfl⟩
  obtain ⟨g2, hg2⟩ : ∃ g2, g2 = w2.heap.size := ⟨_, rfl⟩
  obtain ⟨g3, hg3⟩ : ∃ g3, g3 = w3.heap.size := ⟨_, rfl⟩
  have HZ : Hid (w1.heap.size = w.heap.size + 1 ∧ w2.heap.size = w1.heap.size + 1 ∧ w3.heap.size = w2.heap.size + 1 ∧ g0 = w.heap.size ∧ g1 = w1.heap.size ∧ g2 = w2.heap.size ∧ g3 = w3.heap.size) := ⟨z1, z2, z3, hg0, hg1, hg2, hg3⟩
  rw [← hg0] at H0 ⊢
  rw [← hg1] at H1 r2
  rw [← hg2] at H2 r3
  rw [← hg3] at C15
  clear z1 z2 z3 hg0 hg1 hg2 hg3
  go_wp2_with fail
  refine C15.mono ?_
  rintro e w4 ⟨rfl, T, z4, b4⟩
  clear C15 r2 r3
  obtain ⟨z1, z2, z3, hg0, hg1, hg2, hg3⟩ := HZ.out
  have B3 : Below w.heap.size w w4 := b1.trans ((b2.mono (by omega)).trans ((b3.mono (by omega)).trans (b4.mono (by omega))))
  have L6 := law5_B a a1 n c c1 g0 g1 g2 g3 (g3 + 1) (g3 + 2) keep L O w w4 hn (by omega) HE.out HO.out B3 (by omega) (by omega)
    (((H0.below b2 (by omega)).below b3 (by omega)).below b4 (by omega)) (by rw [stateC_nil]; exact (H1.below b3 (by omega)).below b4 (by omega)) (by rw [show freedC [] n = List.replicate n (.int .i64 0) by simp [freedC]]; exact H2.below b4 (by omega)) T z4
  clear T H0 H1 H2 b1 b2 b3 b4 B3 HE HO HS HZ
  dsimp only
  repeat (first | exact L6 _ _ _ _ _ _ _ _ _ _ _ _ _ _ _ _ _ _ _ _ _ _ _ _ _ _ _ | go_step)
end Go.Proofs.Qxb6614828a
