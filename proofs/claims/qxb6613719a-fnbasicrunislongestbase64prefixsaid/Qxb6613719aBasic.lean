import Derived.Test.Qxb6613719aFoldParts
namespace Go.Proofs.Qxb6613719a
open Go.RowKit
def b64B (b : Int) : Bool := decide ((65 ≤ b ∧ b ≤ 90) ∨ (97 ≤ b ∧ b ≤ 122) ∨ (48 ≤ b ∧ b ≤ 57) ∨ b = 43 ∨ b = 47)
def dig (v : Int) : Int := if v < 26 then 65 + v else if v < 52 then 97 + v - 26 else if v < 62 then 48 + v - 52 else if v = 62 then 43 else 47
theorem dig_is (v : Int) (h0 : 0 ≤ v) (h1 : v < 64) : b64B (dig v) = true := by
  unfold b64B dig
  simp only [decide_eq_true_eq]
  split
  · omega
  · split
    · omega
    · split
      · omega
      · split <;> omega
theorem dig_bd (v : Int) (h0 : 0 ≤ v) (h1 : v < 64) : 0 ≤ dig v ∧ dig v ≤ 255 := by
  unfold dig
  split
  · omega
  · split
    · omega
    · split
      · omega
      · split <;> omega
theorem no_dig (b : Int) (h : ∀ j : Nat, j < 64 → dig j ≠ b) : b64B b = false := by
  rw [Bool.eq_false_iff]
  intro hb
  simp only [b64B, decide_eq_true_eq] at hb
  rcases hb with hb | hb | hb | rfl | rfl
  · exact h (b - 65).toNat (by omega) (by unfold dig; rw [if_pos (by omega)]; omega)
  · exact h (b - 71).toNat (by omega) (by unfold dig; rw [if_neg (by omega), if_pos (by omega)]; omega)
  · exact h (b + 4).toNat (by omega) (by unfold dig; rw [if_neg (by omega), if_neg (by omega), if_pos (by omega)]; omega)
  · exact h 62 (by omega) (by decide)
  · exact h 63 (by omega) (by decide)

set_option maxHeartbeats 400000 in
theorem digit_any (v : Int) (h0 : 0 ≤ v) (h1 : v < 64) (w : World) :
    Calls Try.prog 28 #[.int .i64 v] w fun e w' => e = .returned (.int .u8 (dig v)) ∧ w' = w := by
  rcases (show v < 26 ∨ (26 ≤ v ∧ v < 52) ∨ (52 ≤ v ∧ v < 62) ∨ v = 62 ∨ v = 63 from by omega) with h | ⟨h, h'⟩ | ⟨h, h'⟩ | rfl | rfl
  · go_enter Try.func28, Try.ntmps28
    go_wp2
    go_ret
    exact ⟨ret_int (by unfold dig; rw [if_pos h]; try omega), rfl⟩
  · go_enter Try.func28, Try.ntmps28
    go_wp2
    go_ret
    exact ⟨ret_int (by unfold dig; rw [if_neg (by omega), if_pos h']; try omega), rfl⟩
  · go_enter Try.func28, Try.ntmps28
    go_wp2
    go_ret
    exact ⟨ret_int (by unfold dig; rw [if_neg (by omega), if_neg (by omega), if_pos h']; try omega), rfl⟩
  · go_enter Try.func28, Try.ntmps28
    go_wp2
    go_ret
    exact ⟨rfl, rfl⟩
  · go_enter Try.func28, Try.ntmps28
    go_wp2
    go_ret
    exact ⟨rfl, rfl⟩

set_option maxHeartbeats 400000 in
theorem has_any (b : Int) (w : World) :
    Calls Try.prog 14 #[.int .u8 b] w fun e w' => e = .returned (.bool (b64B b)) ∧ w' = w := by
  go_enter Try.func14, Try.ntmps14
  go_wp2
  go_loop [3] (fun i => ∃ k : Nat, k ≤ 64 ∧ i = .int .i64 k ∧ Hid (∀ j : Nat, j < k → dig j ≠ b)) (fun i => 64 - (intOf i).toNat)
  case atStart => exact ⟨0, by omega, rfl, fun j hj => by omega⟩
  case round =>
    obtain ⟨k, hk, rfl, hno⟩ := hrel
    by_cases hlt : k < 64
    · have hi : (k : Int) < 64 := by omega
      by_cases hit : dig k = b
      · have HT : Hid (dig k = b) := hit
        have ht : (dig k == b) = true := by rw [beq_iff_eq]; exact hit
        clear hit
        go_wp2_with (go_at_call 28; refine (digit_any _ (by omega) hi _).mono ?_; rintro e w' ⟨rfl, hw'⟩; rw [hw']; clear hw' w')
        go_ret
        exact ⟨ret_bl (by rw [← HT.out]; exact (dig_is _ (by omega) hi).symm), rfl⟩
      · have ht : (dig k == b) = false := by rw [beq_eq_false_iff_ne]; exact hit
        have HT : Hid (¬ dig k = b) := hit
        clear hit
        go_wp2_with (go_at_call 28; refine (digit_any _ (by omega) hi _).mono ?_; rintro e w' ⟨rfl, hw'⟩; rw [hw']; clear hw' w')
        go_round
        case rel => exact ⟨k + 1, by omega, by go_num, fun j hj => by
          rcases Nat.lt_or_ge j k with h | h
          · exact hno.out j h
          · obtain rfl : j = k := by omega
            exact HT.out⟩
        case measure => simp [intOf]; omega
    · obtain rfl : k = 64 := by omega
      go_wp2
      go_ret
      exact ⟨ret_bl (no_dig b hno.out).symm, rfl⟩

set_option maxHeartbeats 400000 in
theorem basic_any (b : Int) (w : World) :
    Calls Try.prog 27 #[.int .u8 b] w fun e w' => e = .returned (.bool (b64B b)) ∧ w' = w := by
  rcases (show b < 43 ∨ b = 43 ∨ (43 < b ∧ b < 47) ∨ b = 47 ∨ (48 ≤ b ∧ b ≤ 57) ∨ (57 < b ∧ b < 65) ∨ (65 ≤ b ∧ b ≤ 90) ∨ (90 < b ∧ b < 97) ∨ (97 ≤ b ∧ b ≤ 122) ∨ 122 < b from by omega) with h | rfl | ⟨h, h'⟩ | rfl | ⟨h, h'⟩ | ⟨h, h'⟩ | ⟨h, h'⟩ | ⟨h, h'⟩ | ⟨h, h'⟩ | h
  all_goals
    go_enter Try.func27, Try.ntmps27
    go_wp2
  all_goals
    go_ret
  all_goals (refine ⟨ret_bl ?_, rfl⟩; first | rfl | (rw [Bool.eq_iff_iff]; simp [b64B]; omega))

theorem basic_low (b : Int) : b64B (low b) = b64B b := by
  unfold low
  split
  · rw [Bool.eq_iff_iff]; simp [b64B]; omega
  · rfl

set_option maxHeartbeats 400000 in
theorem basic_walk (b : Int) (h0 : 0 ≤ b) (h1 : b ≤ 255) (w : World) :
    Calls Try.prog 5 #[.int .u8 b] w fun e w' => e = .returned (.bool true) ∧ Grown w w' := by
  have hbl := basic_low b
  go_enter Try.func5, Try.ntmps5
  go_wp2_with (first
    | (go_at_call 13; go_in)
    | (go_at_call 15; go_in)
    | (go_at_call 27; refine (basic_any _ _).mono ?_; rintro e w' ⟨rfl, hw'⟩; rw [hw']; clear hw' w')
    | (go_at_call 14; refine (has_any _ _).mono ?_; rintro e w' ⟨rfl, hw'⟩; rw [hw']; clear hw' w')
    | (go_at_call 29; refine (toLower_any _ h0 h1 _).mono ?_; rintro e w' ⟨rfl, hw'⟩; rw [hw']; clear hw' w'))
  go_ret
  exact ⟨rfl, Grown.refl _⟩
end Go.Proofs.Qxb6613719a
