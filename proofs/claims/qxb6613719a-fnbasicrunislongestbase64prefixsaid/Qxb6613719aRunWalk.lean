import Derived.Test.Qxb6613719aRun
namespace Go.Proofs.Qxb6613719a
open Go.RowKit

set_option maxHeartbeats 1000000 in
theorem run_walk (x : Addr) (n cap : Nat) (zs : List Int) (kk : Nat) (w : World) (hn : n ≤ 1048576) (hkk : kk ≤ n)
    (hzl : n ≤ zs.length)
    (hc : ∀ i, i < n → w.cell? (x.add i) = some (.int .u8 (zs.getD i 0))) :
    Calls Try.prog 6 #[.slice (some x) n cap, .int .i64 kk] w fun e w' => e = .returned (.bool true) ∧ Below w.heap.size w w' := by
  obtain ⟨w1, r1, h1, s1, b1⟩ := make_has (P := Try.prog) w 22 5 (.int .u8 0) 1 n Try.underlying22 Try.info5 rfl (by omega) (by omega)
  obtain ⟨w2, r2, h2, s2, b2⟩ := copy_has (P := Try.prog) w1 22 22 3 5 Try.underlying22 Try.size5 w.heap.size (some x) n n cap _ h1 ((zs.take n).map (Value.int .u8)) (by simp; omega) (by simp) (src_cells hzl hc b1) (ints_oneCell _ _)
  have B2 : Below w.heap.size w w2 := b1.trans b2
  obtain ⟨ls, hls⟩ : ∃ ls, ls = zs.take n := ⟨_, rfl⟩
  have hlen : ls.length = n := by rw [hls]; simp; omega
  have HC : Hid (∀ i, i < n → w2.cell? ⟨w.heap.size, i, none⟩ = some (.int .u8 (ls[i]?.getD 0))) := fun i hi => h2.cell i _ (by rw [← hls, List.getElem?_map, List.getElem?_eq_getElem (by omega)]; simp)
  have HL : Hid (ls.length = n) := hlen
  have hd : decide ((1048576 : Int) < (n : Int)) = false := decide_eq_false (by omega)
  have hd2 : decide ((n : Int) < (kk : Int)) = false := decide_eq_false (by omega)
  have hd3 : decide ((kk : Int) < 0) = false := decide_eq_false (by omega)
  have hd4 : decide (n < kk) = false := decide_eq_false (by omega)
  have R1 := run_row w.heap.size n n ls w2 hn hlen HC.out
  have R2 := run_row w.heap.size kk n (ls.take kk) w2 (by omega) (by simp; omega) (fun i hi => by rw [HC.out i (by omega), List.getElem?_take_of_lt hi])
  rw [runLen_take] at R2
  clear hls hlen hc b1 b2 h1 h2 s1 s2
  go_enter Try.func6, Try.ntmps6
  go_wp2_with (first | (go_at_call 16; refine (bytes16_yes _ _ _ _ hn _).mono ?_; rintro e w' ⟨rfl, hw'⟩; rw [hw']; clear hw' w'))
  go_loop [6] (fun i => ∃ k : Nat, k ≤ n ∧ i = .int .i64 k ∧ Hid (∀ j : Nat, j < k → b64B (ls[j]?.getD 0) = true)) (fun i => n - (intOf i).toNat)
  case atStart => exact ⟨0, by omega, rfl, fun j hj => by omega⟩
  case round =>
    obtain ⟨k, hk, rfl, hall⟩ := hrel
    by_cases hlt : k < n ∧ b64B (ls[k]?.getD 0) = true
    · obtain ⟨hlt, hb⟩ := hlt
      have hck := HC.out k hlt
      have hli : (k : Int) < (n : Int) := by omega
      go_wp2_with (go_at_call 14; refine (has_any _ _).mono ?_; rintro e w' ⟨rfl, hw'⟩; rw [hw']; clear hw' w')
      go_round
      case rel => exact ⟨k + 1, by omega, by go_num, fun j hj => by
        rcases Nat.lt_or_ge j k with h | h
        · exact hall.out j h
        · obtain rfl : j = k := by omega
          exact hb⟩
      case measure => simp [intOf]; omega
    · have hr : runLen ls = k := runLen_eq ls k (by rw [HL.out]; exact hk) hall.out (by
        rcases Nat.lt_or_ge k n with h | h
        · right
          cases hb : b64B (ls[k]?.getD 0)
          · rfl
          · exact absurd ⟨h, hb⟩ hlt
        · left; rw [HL.out]; omega)
      rw [hr] at R1 R2
      have hnb : k < n → b64B (ls[k]?.getD 0) = false := fun h => by
          cases hb : b64B (ls[k]?.getD 0)
          · rfl
          · exact absurd ⟨h, hb⟩ hlt
      clear hr hlt hall
      have hm1 : kk < k → min k kk = kk := fun h => Nat.min_eq_right (by omega)
      have hm2 : ¬ kk < k → min k kk = k := fun h => Nat.min_eq_left (by omega)
      by_cases hkm : kk < k
      · rw [hm1 hkm] at R2
        clear hm1 hm2
        by_cases hlt : k < n
        · have hck := HC.out k hlt
          have hli : (k : Int) < (n : Int) := by omega
          have hb := hnb hlt
          clear hnb
          go_wp2_with (first | (go_at_call 14; refine (has_any _ _).mono ?_; rintro e w' ⟨rfl, hw'⟩; rw [hw']; clear hw' w'))
          refine R1.mono ?_
          rintro e w' ⟨rfl, hw'⟩; rw [hw']; clear hw' w'
          go_wp2_with fail
          refine R2.mono ?_
          rintro e w' ⟨rfl, hw'⟩; rw [hw']; clear hw' w'
          go_wp2
          go_ret
          exact ⟨rfl, B2⟩
        · clear hnb
          go_wp2_with fail
          refine R1.mono ?_
          rintro e w' ⟨rfl, hw'⟩; rw [hw']; clear hw' w'
          go_wp2_with fail
          refine R2.mono ?_
          rintro e w' ⟨rfl, hw'⟩; rw [hw']; clear hw' w'
          go_wp2
          go_ret
          exact ⟨rfl, B2⟩
      · rw [hm2 hkm] at R2
        clear hm1 hm2
        by_cases hlt : k < n
        · have hck := HC.out k hlt
          have hli : (k : Int) < (n : Int) := by omega
          have hb := hnb hlt
          clear hnb
          go_wp2_with (first | (go_at_call 14; refine (has_any _ _).mono ?_; rintro e w' ⟨rfl, hw'⟩; rw [hw']; clear hw' w'))
          refine R1.mono ?_
          rintro e w' ⟨rfl, hw'⟩; rw [hw']; clear hw' w'
          go_wp2_with fail
          refine R2.mono ?_
          rintro e w' ⟨rfl, hw'⟩; rw [hw']; clear hw' w'
          go_wp2
          go_ret
          exact ⟨rfl, B2⟩
        · clear hnb
          go_wp2_with fail
          refine R1.mono ?_
          rintro e w' ⟨rfl, hw'⟩; rw [hw']; clear hw' w'
          go_wp2_with fail
          refine R2.mono ?_
          rintro e w' ⟨rfl, hw'⟩; rw [hw']; clear hw' w'
          go_wp2
          go_ret
          exact ⟨rfl, B2⟩

set_option maxHeartbeats 400000 in
theorem run_walk_nil (w : World) :
    Calls Try.prog 6 #[.slice none 0 0, .int .i64 0] w fun e w' => e = .returned (.bool true) ∧ Below w.heap.size w w' := by
  go_enter Try.func6, Try.ntmps6
  go_wp2_with (first | (go_at_call 16; refine (bytes16_yes _ _ _ _ (by omega) _).mono ?_; rintro e w' ⟨rfl, hw'⟩; rw [hw']; clear hw' w'))
  refine wp_loop_rounds 1 ?_
  rw [rounds_succ]
  go_wp2_with fail
  refine (run_nil _).mono ?_
  rintro e w' ⟨rfl, hw'⟩; rw [hw']; clear hw' w'
  go_wp2_with fail
  refine (run_nil _).mono ?_
  rintro e w' ⟨rfl, hw'⟩; rw [hw']; clear hw' w'
  go_wp2
  go_ret
  exact ⟨rfl, Below.refl _ _⟩

set_option maxHeartbeats 400000 in
theorem run_walk_out (a : Option Addr) (n cap : Nat) (k : Int) (h : k < 0 ∨ (n : Int) < k) (w : World) :
    Calls Try.prog 6 #[.slice a n cap, .int .i64 k] w fun e w' => e = .returned (.bool true) ∧ Below w.heap.size w w' := by
  by_cases hn : n ≤ 1048576
  · rcases h with h | h
    · have hd : decide (k < 0) = true := decide_eq_true h
      go_enter Try.func6, Try.ntmps6
      go_wp2_with (first | (go_at_call 16; refine (bytes16_yes _ _ _ _ hn _).mono ?_; rintro e w' ⟨rfl, hw'⟩; rw [hw']; clear hw' w'))
      go_ret
      exact ⟨rfl, Below.refl _ _⟩
    · have hd : decide ((n : Int) < k) = true := decide_eq_true h
      have hd2 : decide (k < 0) = false := decide_eq_false (by omega)
      go_enter Try.func6, Try.ntmps6
      go_wp2_with (first | (go_at_call 16; refine (bytes16_yes _ _ _ _ hn _).mono ?_; rintro e w' ⟨rfl, hw'⟩; rw [hw']; clear hw' w'))
      go_ret
      exact ⟨rfl, Below.refl _ _⟩
  · go_enter Try.func6, Try.ntmps6
    go_wp2_with (first | (go_at_call 16; refine (bytes16_no _ _ _ _ hn _).mono ?_; rintro e w' ⟨rfl, hw'⟩; rw [hw']; clear hw' w'))
    go_ret
    exact ⟨rfl, Below.refl _ _⟩

set_option maxHeartbeats 400000 in
theorem run_walk_big (a : Option Addr) (n cap : Nat) (k : Int) (hn : ¬ n ≤ 1048576) (w : World) :
    Calls Try.prog 6 #[.slice a n cap, .int .i64 k] w fun e w' => e = .returned (.bool true) ∧ Below w.heap.size w w' := by
  go_enter Try.func6, Try.ntmps6
  go_wp2_with (first | (go_at_call 16; refine (bytes16_no _ _ _ _ hn _).mono ?_; rintro e w' ⟨rfl, hw'⟩; rw [hw']; clear hw' w'))
  go_ret
  exact ⟨rfl, Below.refl _ _⟩
end Go.Proofs.Qxb6613719a
