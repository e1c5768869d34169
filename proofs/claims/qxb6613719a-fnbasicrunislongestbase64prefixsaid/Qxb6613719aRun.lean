import Derived.Test.Qxb6613719aBasic
namespace Go.Proofs.Qxb6613719a
open Go.RowKit
theorem Try.info5 : (Try.prog.info? 5).map (fun i => (i.zero, i.size, i.bytes)) = some (some (.int .u8 0), 1, 1) := by kernel_rfl
theorem Try.size5 : (Try.prog.info? 5).map (·.size) = some 1 := by kernel_rfl

def runLen : List Int → Nat
  | [] => 0
  | b :: r => if b64B b = true then runLen r + 1 else 0
theorem runLen_le : ∀ l : List Int, runLen l ≤ l.length
  | [] => by simp [runLen]
  | b :: r => by
    have := runLen_le r
    unfold runLen; split <;> simp <;> omega
theorem runLen_eq : ∀ (l : List Int) (k : Nat), k ≤ l.length → (∀ j, j < k → b64B (l[j]?.getD 0) = true) → (k = l.length ∨ b64B (l[k]?.getD 0) = false) → runLen l = k
  | [], k, hk, _, _ => by simp at hk; subst hk; rfl
  | b :: r, 0, _, _, hs => by
    rcases hs with hs | hs
    · simp at hs
    · simp at hs; simp [runLen, hs]
  | b :: r, k + 1, hk, ha, hs => by
    have h0 : b64B b = true := by simpa using ha 0 (by omega)
    have ih := runLen_eq r k (by simpa using hk) (fun j hj => by simpa using ha (j + 1) (by omega)) (by
      rcases hs with hs | hs
      · left; simpa using hs
      · right; simpa using hs)
    simp [runLen, h0, ih]
theorem runLen_take : ∀ (l : List Int) (k : Nat), runLen (l.take k) = min (runLen l) k
  | [], k => by simp [runLen]
  | b :: r, 0 => by simp [runLen]
  | b :: r, k + 1 => by
    have ih := runLen_take r k
    rw [List.take_succ_cons]
    unfold runLen
    split
    · rw [ih]; omega
    · omega

set_option maxHeartbeats 400000 in
theorem run_row (g n cap : Nat) (ls : List Int) (w : World) (hn : n ≤ 1048576) (hl : ls.length = n)
    (hc : ∀ i, i < n → w.cell? ⟨g, i, none⟩ = some (.int .u8 (ls[i]?.getD 0))) :
    Calls Try.prog 17 #[.slice (some ⟨g, 0, none⟩) n cap] w fun e w' => e = .returned (.int .i64 (runLen ls)) ∧ w' = w := by
  have HC : Hid (∀ i, i < n → w.cell? ⟨g, i, none⟩ = some (.int .u8 (ls[i]?.getD 0))) := hc
  have HL : Hid (ls.length = n) := hl
  clear hc hl
  go_enter Try.func17, Try.ntmps17
  go_wp2_with (first | (go_at_call 30; go_in))
  go_loop [9] (fun i => ∃ k : Nat, k ≤ n ∧ i = .int .i64 k ∧ Hid (∀ j : Nat, j < k → b64B (ls[j]?.getD 0) = true)) (fun i => n - (intOf i).toNat)
  case atStart => exact ⟨0, by omega, rfl, fun j hj => by omega⟩
  case round =>
    obtain ⟨k, hk, rfl, hall⟩ := hrel
    by_cases hlt : k < n
    · have hck := HC.out k hlt
      have hli : (k : Int) < (n : Int) := by omega
      cases hb : b64B (ls[k]?.getD 0)
      · go_wp2_with (go_at_call 27; refine (basic_any _ _).mono ?_; rintro e w' ⟨rfl, hw'⟩; rw [hw']; clear hw' w')
        go_ret
        have hr := runLen_eq ls k (by rw [HL.out]; exact hk) hall.out (.inr hb)
        exact ⟨ret_int (by rw [hr]), rfl⟩
      · go_wp2_with (go_at_call 27; refine (basic_any _ _).mono ?_; rintro e w' ⟨rfl, hw'⟩; rw [hw']; clear hw' w')
        go_round
        case rel => exact ⟨k + 1, by omega, by go_num, fun j hj => by
          rcases Nat.lt_or_ge j k with h | h
          · exact hall.out j h
          · obtain rfl : j = k := by omega
            exact hb⟩
        case measure => simp [intOf]; omega
    · obtain rfl : k = n := by omega
      go_wp2
      go_ret
      have hr := runLen_eq ls k (by rw [HL.out]; omega) hall.out (.inl HL.out.symm)
      exact ⟨ret_int (by rw [hr]), rfl⟩

set_option maxHeartbeats 400000 in
theorem run_nil (w : World) :
    Calls Try.prog 17 #[.slice none 0 0] w fun e w' => e = .returned (.int .i64 0) ∧ w' = w := by
  go_enter Try.func17, Try.ntmps17
  go_wp2_with (first | (go_at_call 30; go_in))
  refine wp_loop_rounds 1 ?_
  rw [rounds_succ]
  go_wp2
  go_ret
  exact ⟨rfl, rfl⟩

set_option maxHeartbeats 400000 in
theorem bytes16_yes (a : Option Addr) (n cap : Nat) (k : Int) (hn : n ≤ 1048576) (w : World) :
    Calls Try.prog 16 #[.slice a n cap, .int .i64 k] w fun e w' => e = .returned (.bool true) ∧ w' = w := by
  have hd : decide ((1048576 : Int) < (n : Int)) = false := decide_eq_false (by omega)
  go_enter Try.func16, Try.ntmps16
  go_wp2
  go_ret
  exact ⟨rfl, rfl⟩
set_option maxHeartbeats 400000 in
theorem bytes16_no (a : Option Addr) (n cap : Nat) (k : Int) (hn : ¬ n ≤ 1048576) (w : World) :
    Calls Try.prog 16 #[.slice a n cap, .int .i64 k] w fun e w' => e = .returned (.bool false) ∧ w' = w := by
  have hd : decide ((1048576 : Int) < (n : Int)) = true := decide_eq_true (by omega)
  go_enter Try.func16, Try.ntmps16
  go_wp2
  go_ret
  exact ⟨rfl, rfl⟩
end Go.Proofs.Qxb6613719a
