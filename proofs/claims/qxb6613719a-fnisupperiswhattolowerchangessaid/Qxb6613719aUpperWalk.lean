import Derived.Test.Qxb6613719aProg
import Derived.WalkKit
import Derived.WalkSpells
import Derived.WalkLawsBesides
namespace Go.Proofs.Qxb6613719a
open Go.RowKit
set_option maxHeartbeats 400000 in
theorem upper_walk (b : Int) (h0 : 0 ≤ b) (h1 : b ≤ 255) (w : World) :
    Calls Try.prog 7 #[.int .u8 b] w fun e w' => e = .returned (.bool true) ∧ Grown w w' := by
  rcases (show b < 32 ∨ (32 ≤ b ∧ b < 65) ∨ (65 ≤ b ∧ b ≤ 90) ∨ (90 < b ∧ b < 97) ∨ (97 ≤ b ∧ b ≤ 122) ∨ 122 < b from by omega) with h | ⟨h, h'⟩ | ⟨h, h'⟩ | ⟨h, h'⟩ | ⟨h, h'⟩ | h
  · have hv : 65 ≤ (b - 32) % 256 := by omega
    have hw : decide ((b - 32) % 256 ≤ 90) = false := decide_eq_false (by omega)
    go_enter Try.func7, Try.ntmps7
    go_wp2
    go_ret
    exact ⟨rfl, Grown.refl _⟩
  · have hw : (b - 32) % 256 = b - 32 := by omega
    go_enter Try.func7, Try.ntmps7
    go_wp2
    go_ret
    exact ⟨rfl, Grown.refl _⟩
  · have hw : (b - 32) % 256 = b - 32 := by omega
    have hx : (b + 97 - 65 != b) = true := by rw [bne_iff_ne]; omega
    have hy : decide (b ≤ 90) = true := decide_eq_true (by omega)
    go_enter Try.func7, Try.ntmps7
    go_wp2
    go_ret
    exact ⟨rfl, Grown.refl _⟩
  · have hw : (b - 32) % 256 = b - 32 := by omega
    have hy : decide (b ≤ 90) = false := decide_eq_false (by omega)
    go_enter Try.func7, Try.ntmps7
    go_wp2
    go_ret
    exact ⟨rfl, Grown.refl _⟩
  · have hw : (b - 32) % 256 = b - 32 := by omega
    have hy : decide (b ≤ 90) = false := decide_eq_false (by omega)
    have hz : decide (b - 32 ≤ 90) = true := decide_eq_true (by omega)
    have hu : decide (b ≤ 122) = true := decide_eq_true (by omega)
    go_enter Try.func7, Try.ntmps7
    go_wp2
    go_ret
    exact ⟨rfl, Grown.refl _⟩
  · have hw : (b - 32) % 256 = b - 32 := by omega
    have hy : decide (b ≤ 90) = false := decide_eq_false (by omega)
    have hz : decide (b - 32 ≤ 90) = false := decide_eq_false (by omega)
    have hu : decide (b ≤ 122) = false := decide_eq_false (by omega)
    go_enter Try.func7, Try.ntmps7
    go_wp2
    go_ret
    exact ⟨rfl, Grown.refl _⟩
end Go.Proofs.Qxb6613719a
