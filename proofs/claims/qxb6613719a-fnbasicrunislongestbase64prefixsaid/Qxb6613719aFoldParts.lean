import Derived.Test.Qxb6613719aMem
namespace Go.Proofs.Qxb6613719a
open Go.RowKit
def low (b : Int) : Int := if 65 ≤ b ∧ b ≤ 90 then b + 32 else b
def upB (b : Int) : Bool := decide (65 ≤ b ∧ b ≤ 90)
theorem ret_int {k : IntKind} {a b : Int} (h : a = b) : Ending.returned (.int k a) = .returned (.int k b) := by rw [h]
theorem ret_bl {a b : Bool} (h : a = b) : Ending.returned (.bool a) = .returned (.bool b) := by rw [h]

set_option maxHeartbeats 400000 in
theorem toLower_any (b : Int) (h0 : 0 ≤ b) (h1 : b ≤ 255) (w : World) :
    Calls Try.prog 29 #[.int .u8 b] w fun e w' => e = .returned (.int .u8 (low b)) ∧ w' = w := by
  rcases (show b < 65 ∨ (65 ≤ b ∧ b ≤ 90) ∨ 90 < b from by omega) with h | ⟨h, h'⟩ | h
  all_goals
    go_enter Try.func29, Try.ntmps29
    go_wp2
    go_ret
  · exact ⟨ret_int (by unfold low; rw [if_neg (by omega)]), rfl⟩
  · exact ⟨ret_int (by unfold low; rw [if_pos ⟨h, h'⟩]; omega), rfl⟩
  · exact ⟨ret_int (by unfold low; rw [if_neg (by omega)]), rfl⟩

set_option maxHeartbeats 400000 in
theorem zzIsUpper_any (b : Int) (w : World) :
    Calls Try.prog 18 #[.int .u8 b] w fun e w' => e = .returned (.bool (upB b)) ∧ w' = w := by
  rcases (show b < 65 ∨ (65 ≤ b ∧ b ≤ 90) ∨ 90 < b from by omega) with h | ⟨h, h'⟩ | h
  all_goals
    go_enter Try.func18, Try.ntmps18
    go_wp2
    go_ret
  all_goals exact ⟨ret_bl (by simp [upB]; try omega), rfl⟩

set_option maxHeartbeats 400000 in
theorem hasPrefixFold_any (b off cap : Nat) (zs : List Int) (s : ByteArray) (w : World) (hn : s.size ≤ 1048576)
    (hc : ∀ i, i < s.size → w.cell? ⟨b, off + i, none⟩ = some (.int .u8 (zs.getD i 0)))
    (hz : ∀ i : Nat, 0 ≤ zs[i]?.getD 0 ∧ zs[i]?.getD 0 ≤ 255)
    (hlow : ∀ (i : Nat) (h : i < s.size), low (zs[i]?.getD 0) = (s[i].toNat : Int)) :
    Calls Try.prog 43 #[.slice (some ⟨b, off, none⟩) s.size cap, .string s] w fun e w' => e = .returned (.bool true) ∧ ∃ nq, w' = w.drewN nq := by
  have HL : Hid (∀ (i : Nat) (h : i < s.size), low (zs[i]?.getD 0) = (s[i].toNat : Int)) := hlow
  have HZ : Hid (∀ i : Nat, 0 ≤ zs[i]?.getD 0 ∧ zs[i]?.getD 0 ≤ 255) := hz
  have HC : Hid (∀ i, i < s.size → w.cell? ⟨b, off + i, none⟩ = some (.int .u8 (zs.getD i 0))) := hc
  clear hlow hz hc
  go_enter Try.func43, Try.ntmps43
  go_wp2
  go_loopw [13] (fun i wr => ∃ k : Nat, k ≤ s.size ∧ i = .int .i64 k ∧ Hid (∃ nq, wr = w.drewN nq)) (fun i _ => s.size - (intOf i).toNat)
  case atStart => exact ⟨0, Nat.zero_le _, rfl, 0, rfl⟩
  case round =>
    obtain ⟨k, hk, rfl, hw⟩ := hrel
    by_cases hlt : k < s.size
    · have hck : wr.cell? ⟨b, off + k, none⟩ = some (.int .u8 (zs.getD k 0)) := by obtain ⟨nq, rfl⟩ := hw.out; exact HC.out k hlt
      have hz1 := (HZ.out k).1
      have hz2 := (HZ.out k).2
      have hli : (k : Int) < (s.size : Int) := by omega
      go_wp2
      go_quiet ((go_at_call 29; exact Calls.quiet_of_same (toLower_any _ hz1 hz2 _)))
      have hne : (low (zs[k]?.getD 0) != (s[k].toNat : Int)) = false := by rw [HL.out k hlt]; simp
      go_wp2
      go_roundw
      case rel => exact ⟨k + 1, by omega, by go_num, by obtain ⟨nq', rfl⟩ := hw.out; exact ⟨nq' + nq, by rw [World.drewN_drewN]⟩⟩
      case measure => simp [intOf]; omega
    · go_wp2
      go_ret
      exact ⟨rfl, hw.out⟩
end Go.Proofs.Qxb6613719a
