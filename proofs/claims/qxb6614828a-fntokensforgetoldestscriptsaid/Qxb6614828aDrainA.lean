import Derived.Test.Qxb6614828aDrainB
namespace Go.Proofs.Qxb6614828a
open Go.RowKit
set_option linter.unusedVariables false
theorem info4 : (Try.prog.info? 4).map (fun i => (i.zero, i.size, i.bytes)) = some (some (.bool false), 1, 1) := by kernel_rfl
theorem make_cap (w : World) (n : Nat) (hn : n ≤ 4096) :
    ∃ w', (Instr.makeSlice 36 (.int .i64 0) (.int .i64 (n : Int))).run Try.prog w = .ok (.slice (some ⟨w.heap.size, 0, none⟩) 0 n) w' ∧
      Has w' w.heap.size 3 (List.replicate n (.int .i64 0)) ∧ w'.heap.size = w.heap.size + 1 ∧ Below w.heap.size w w' := by
  obtain ⟨i, hi, hz0, hz1, hz2⟩ := info_parts info3
  have hb : (i.bytes : Int) * (n : Int) ≤ 281474976710656 := by rw [hz2]; omega
  have hrun := run_make (P := Try.prog) w 36 3 i (.int .i64 0) Try.underlying36 hi hz0 .i64 .i64 (0 : Int) (n : Int) (by omega) (by omega) hb (by omega)
  rw [Int.toNat_natCast, hz1, show (Value.int .i64 0).cells = #[.int .i64 0] from rfl, Nat.mul_one] at hrun
  exact ⟨_, hrun, ⟨by rw [heap_alloc_new, ← toList_madeCells_one]⟩, by simp, (Below.refl _ _).alloc (Nat.le_refl _) _⟩
set_option maxRecDepth 1000000 in
set_option maxHeartbeats 4000000 in
theorem law6_A (a a1 : Option Addr) (n c c1 : Nat) (keep : Int) (L : Nat → ByteArray × Int × Int) (O : List Int) (w : World) (E : Ents w a L n) (EO : Ints w a1 O) :
    Calls Try.prog 6 #[.slice a n c, .slice a1 O.length c1, .int .i64 keep] w fun e w' => e = .returned (.bool true) ∧ Below w.heap.size w w' := by
  have C22 := bytes22_any a a1 n c O.length c1 (.int .i64 keep) L w E
  have HE : Hid (Ents w a L n) := E
  have HO : Hid (Ints w a1 O) := EO
  clear E EO
  go_enter Try.func6, Try.ntmps6
  go_wp2_with fail
  refine C22.mono ?_
  rintro e w' ⟨hb, hw'⟩
  rw [hw']
  clear hw' w' C22
  rcases hb with rfl | ⟨rfl, hsh⟩
  · go_wp2_with fail
    go_ret
    exact ⟨rfl, Below.refl _ _⟩
  have HS : Hid (Short L n) := hsh
  clear hsh
  by_cases ho : (4096 : Int) < (O.length : Int)
  · have d : decide ((4096 : Int) < (O.length : Int)) = true := decide_eq_true ho
    go_wp2_with fail
    go_ret
    exact ⟨rfl, Below.refl _ _⟩
  have d : decide ((4096 : Int) < (O.length : Int)) = false := decide_eq_false ho
  have C13 := tooBig_any a n c (8 * (O.length : Int)) (by omega) (by omega) L w HE.out HS.out
  go_wp2_with fail
  refine C13.mono ?_
  rintro e w' ⟨hb, hw'⟩
  rw [hw']
  clear hw' w' C13
  rcases hb with rfl | ⟨rfl, hn⟩
  · go_wp2_with fail
    go_ret
    exact ⟨rfl, Below.refl _ _⟩
  by_cases hk : keep < 0
  · have d2 : decide (keep < 0) = true := decide_eq_true hk
    go_wp2_with fail
    go_ret
    exact ⟨rfl, Below.refl _ _⟩
  have d2 : decide (keep < 0) = false := decide_eq_false hk
  have C14 := canonical_any a n c L w HE.out hn
  go_wp2_with fail
  refine C14.mono ?_
  rintro e w1 ⟨rfl, H0, z1, b1⟩
  clear C14
  obtain ⟨w2, r2, H1, z2, b2⟩ := make_has (P := Try.prog) w1 52 4 (.bool false) 1 n Try.underlying52 info4 rfl (by omega) (by omega)
  obtain ⟨w3, r3, H2, z3, b3⟩ := make_cap w2 n hn
  have C15 := newTokens_any w3 L
  obtain ⟨g0, hg0⟩ : ∃ g0, g0 = w.heap.size := ⟨_, rfl⟩
  obtain ⟨g1, hg1⟩ : ∃ g1, g1 = w1.heap.size := ⟨_, rfl⟩
  obtain ⟨g2, hg2⟩ : ∃ g2, g2 = w2.heap.size := ⟨_, rfl⟩
  obtain ⟨g3, hg3⟩ : ∃ g3, g3 = w3.heap.size := ⟨_, rfl⟩
  have HZ : Hid (w1.heap.size = w.heap.size + 1 ∧ w2.heap.size = w1.heap.size + 1 ∧ w3.heap.size = w2.heap.size + 1 ∧ g0 = w.heap.size ∧ g1 = w1.heap.size ∧ g2 = w2.heap.size ∧ g3 = w3.heap.size) := ⟨z1, z2, z3, hg0, hg1, hg2, hg3⟩
  rw [← hg0] at H0 ⊢
  rw [← hg1] at H1 r2
  rw [← hg2] at H2 r3
  rw [← hg3] at C15
  clear z1 z2 z3 hg0 hg1 hg2 hg3
  go_wp2_with fail
  refine C15.mono ?_
  rintro e w4 ⟨rfl, T, z4, b4⟩
  clear C15 r2 r3
  obtain ⟨z1, z2, z3, hg0, hg1, hg2, hg3⟩ := HZ.out
  have B3 : Below w.heap.size w w4 := b1.trans ((b2.mono (by omega)).trans ((b3.mono (by omega)).trans (b4.mono (by omega))))
  have L6 := law6_B a a1 n c c1 g0 g1 g2 g3 (g3 + 1) (g3 + 2) keep L O w w4 hn (by omega) HE.out HO.out B3 (by omega) (by omega)
    (((H0.below b2 (by omega)).below b3 (by omega)).below b4 (by omega)) (by rw [boolC_nil]; exact (H1.below b3 (by omega)).below b4 (by omega)) (by rw [show freedC [] n = List.replicate n (.int .i64 0) by simp [freedC]]; exact H2.below b4 (by omega)) T z4
  clear T H0 H1 H2 b1 b2 b3 b4 B3 HE HO HS HZ
  dsimp only
  repeat (first | exact L6 _ _ _ _ _ _ _ _ _ _ _ _ _ _ _ _ _ _ _ _ _ _ _ _ _ _ _ | go_step)
end Go.Proofs.Qxb6614828a
