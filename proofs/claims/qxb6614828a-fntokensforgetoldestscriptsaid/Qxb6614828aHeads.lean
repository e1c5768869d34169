import Derived.Test.Qxb6614828aForget2
namespace Go.Proofs.Qxb6614828a
open Go.RowKit
set_option linter.unusedVariables false
/-- The entries that came in: n structs of three cells. -/
structure Ents (w : World) (a : Option Addr) (L : Nat → ByteArray × Int × Int) (n : Nat) : Prop where
  look : ∀ i, i < n → ∃ b off, a = some ⟨b, off, none⟩ ∧ w.cell? ⟨b, off + i * 3, none⟩ = some (.string (L i).1) ∧ w.cell? ⟨b, off + i * 3 + 1, none⟩ = some (.int .u64 (L i).2.1) ∧ w.cell? ⟨b, off + i * 3 + 2, none⟩ = some (.int .u64 (L i).2.2)
  sz : ∀ i, i < n → (L i).1.size ≤ maxLen
def Short (L : Nat → ByteArray × Int × Int) (n : Nat) : Prop := ∀ i, i < n → (L i).1.size ≤ 1048576
def IsB (e : Ending) (L : Nat → ByteArray × Int × Int) (n : Nat) : Prop := e = .returned (.bool false) ∨ (e = .returned (.bool true) ∧ Short L n)
def Big (e : Ending) (n : Nat) : Prop := e = .returned (.bool true) ∨ (e = .returned (.bool false) ∧ n ≤ 4096)
set_option maxHeartbeats 1000000 in
theorem bytes22_any (a a1 : Option Addr) (n c n1 c1 : Nat) (v : Value) (L : Nat → ByteArray × Int × Int) (w : World) (E : Ents w a L n) :
    Calls Try.prog 22 #[.slice a n c, .slice a1 n1 c1, v] w fun e w' => IsB e L n ∧ w' = w := by
  by_cases h1 : (1048576 : Int) < (n : Int)
  · have d1 : decide ((1048576 : Int) < (n : Int)) = true := decide_eq_true h1
    go_enter Try.func22, Try.ntmps22
    go_wp2_with fail
    go_ret
    exact ⟨Or.inl rfl, rfl⟩
  have d1 : decide ((1048576 : Int) < (n : Int)) = false := decide_eq_false h1
  go_enter Try.func22, Try.ntmps22
  go_wp2_with fail
  go_loop [7, 8] (fun z i => ∃ (k : Nat) (s : Int), Short L k ∧ k ≤ n ∧ 0 ≤ s ∧ s ≤ 1048576 ∧ z = .int .i64 s ∧ i = .int .i64 k) (fun z i => n - (intOf i).toNat)
  case atStart => exact ⟨0, n, fun i hi => absurd hi (Nat.not_lt_zero _), Nat.zero_le _, by omega, by omega, rfl, rfl⟩
  case round =>
    obtain ⟨k, s, hsh, hk, hs0, hs1, rfl, rfl⟩ := hrel
    have HSH : Hid (Short L k) := hsh
    clear hsh
    by_cases hlt : k < n
    · obtain ⟨b, off, rfl, e0, e1, e2⟩ := E.look k hlt
      have hli : (k : Int) < (n : Int) := by omega
      obtain ⟨x, hx⟩ : ∃ x, x = (L k).1 := ⟨_, rfl⟩
      rw [← hx] at e0
      have HX : Hid (x = (L k).1) := hx
      clear hx e1 e2
      by_cases h2 : (1048576 : Int) < (x.size : Int)
      · have d2 : decide ((1048576 : Int) < (x.size : Int)) = true := decide_eq_true h2
        go_wp2_with fail
        go_ret
        exact ⟨Or.inl rfl, rfl⟩
      · have d2 : decide ((1048576 : Int) < (x.size : Int)) = false := decide_eq_false h2
        by_cases h3 : (1048576 : Int) < s + (x.size : Int)
        · have d3 : decide ((1048576 : Int) < s + (x.size : Int)) = true := decide_eq_true h3
          go_wp2_with fail
          go_ret
          exact ⟨Or.inl rfl, rfl⟩
        · have d3 : decide ((1048576 : Int) < s + (x.size : Int)) = false := decide_eq_false h3
          go_wp2_with fail
          go_round
          case rel => exact ⟨k + 1, s + x.size, fun i hi => (by
            rcases Nat.lt_or_ge i k with h | h
            · exact HSH.out i h
            · obtain rfl : i = k := by omega
              rw [← HX.out]; omega), by omega, by omega, by omega, rfl, by go_num⟩
          case measure => simp [intOf]; omega
    · clear E
      by_cases h2 : (1048576 : Int) < (n1 : Int)
      · have d2 : decide ((1048576 : Int) < (n1 : Int)) = true := decide_eq_true h2
        go_wp2_with fail
        go_ret
        exact ⟨Or.inl rfl, rfl⟩
      · have d2 : decide ((1048576 : Int) < (n1 : Int)) = false := decide_eq_false h2
        by_cases h3 : (1048576 : Int) < s + (n1 : Int)
        · have d3 : decide ((1048576 : Int) < s + (n1 : Int)) = true := decide_eq_true h3
          go_wp2_with fail
          go_ret
          exact ⟨Or.inl rfl, rfl⟩
        · have d3 : decide ((1048576 : Int) < s + (n1 : Int)) = false := decide_eq_false h3
          go_wp2_with fail
          go_ret
          exact ⟨Or.inr ⟨rfl, by rw [show n = k by omega]; exact HSH.out⟩, rfl⟩
set_option maxHeartbeats 1000000 in
theorem bytes12_any (a a1 : Option Addr) (n c n1 c1 : Nat) (v : Value) (L : Nat → ByteArray × Int × Int) (w : World) (E : Ents w a L n) :
    Calls Try.prog 12 #[.slice a n c, .slice a1 n1 c1, v] w fun e w' => IsB e L n ∧ w' = w := by
  by_cases h1 : (1048576 : Int) < (n : Int)
  · have d1 : decide ((1048576 : Int) < (n : Int)) = true := decide_eq_true h1
    go_enter Try.func12, Try.ntmps12
    go_wp2_with fail
    go_ret
    exact ⟨Or.inl rfl, rfl⟩
  have d1 : decide ((1048576 : Int) < (n : Int)) = false := decide_eq_false h1
  go_enter Try.func12, Try.ntmps12
  go_wp2_with fail
  go_loop [7, 8] (fun z i => ∃ (k : Nat) (s : Int), Short L k ∧ k ≤ n ∧ 0 ≤ s ∧ s ≤ 1048576 ∧ z = .int .i64 s ∧ i = .int .i64 k) (fun z i => n - (intOf i).toNat)
  case atStart => exact ⟨0, n, fun i hi => absurd hi (Nat.not_lt_zero _), Nat.zero_le _, by omega, by omega, rfl, rfl⟩
  case round =>
    obtain ⟨k, s, hsh, hk, hs0, hs1, rfl, rfl⟩ := hrel
    have HSH : Hid (Short L k) := hsh
    clear hsh
    by_cases hlt : k < n
    · obtain ⟨b, off, rfl, e0, e1, e2⟩ := E.look k hlt
      have hli : (k : Int) < (n : Int) := by omega
      obtain ⟨x, hx⟩ : ∃ x, x = (L k).1 := ⟨_, rfl⟩
      rw [← hx] at e0
      have HX : Hid (x = (L k).1) := hx
      clear hx e1 e2
      by_cases h2 : (1048576 : Int) < (x.size : Int)
      · have d2 : decide ((1048576 : Int) < (x.size : Int)) = true := decide_eq_true h2
        go_wp2_with fail
        go_ret
        exact ⟨Or.inl rfl, rfl⟩
      · have d2 : decide ((1048576 : Int) < (x.size : Int)) = false := decide_eq_false h2
        by_cases h3 : (1048576 : Int) < s + (x.size : Int)
        · have d3 : decide ((1048576 : Int) < s + (x.size : Int)) = true := decide_eq_true h3
          go_wp2_with fail
          go_ret
          exact ⟨Or.inl rfl, rfl⟩
        · have d3 : decide ((1048576 : Int) < s + (x.size : Int)) = false := decide_eq_false h3
          go_wp2_with fail
          go_round
          case rel => exact ⟨k + 1, s + x.size, fun i hi => (by
            rcases Nat.lt_or_ge i k with h | h
            · exact HSH.out i h
            · obtain rfl : i = k := by omega
              rw [← HX.out]; omega), by omega, by omega, by omega, rfl, by go_num⟩
          case measure => simp [intOf]; omega
    · clear E
      by_cases h2 : (1048576 : Int) < (n1 : Int)
      · have d2 : decide ((1048576 : Int) < (n1 : Int)) = true := decide_eq_true h2
        go_wp2_with fail
        go_ret
        exact ⟨Or.inl rfl, rfl⟩
      · have d2 : decide ((1048576 : Int) < (n1 : Int)) = false := decide_eq_false h2
        by_cases h3 : (1048576 : Int) < s + (n1 : Int)
        · have d3 : decide ((1048576 : Int) < s + (n1 : Int)) = true := decide_eq_true h3
          go_wp2_with fail
          go_ret
          exact ⟨Or.inl rfl, rfl⟩
        · have d3 : decide ((1048576 : Int) < s + (n1 : Int)) = false := decide_eq_false h3
          go_wp2_with fail
          go_ret
          exact ⟨Or.inr ⟨rfl, by rw [show n = k by omega]; exact HSH.out⟩, rfl⟩
set_option maxHeartbeats 1000000 in
/-- 'entriesTooBig': it answers; where it answers false there are at most 1<<12 entries. -/
theorem tooBig_any (a : Option Addr) (n c : Nat) (more : Int) (hm0 : 0 ≤ more) (hm1 : more ≤ 1048576) (L : Nat → ByteArray × Int × Int) (w : World) (E : Ents w a L n) (hsh : Short L n) :
    Calls Try.prog 13 #[.slice a n c, .int .i64 more] w fun e w' => Big e n ∧ w' = w := by
  by_cases h1 : (4096 : Int) < (n : Int)
  · have d1 : decide ((4096 : Int) < (n : Int)) = true := decide_eq_true h1
    go_enter Try.func13, Try.ntmps13
    go_wp2_with fail
    go_ret
    exact ⟨Or.inl rfl, rfl⟩
  have d1 : decide ((4096 : Int) < (n : Int)) = false := decide_eq_false h1
  have hn : n ≤ 4096 := by omega
  go_enter Try.func13, Try.ntmps13
  go_wp2_with fail
  go_loop [5, 6] (fun z i => ∃ (k : Nat) (s : Int), k ≤ n ∧ 0 ≤ s ∧ s ≤ 1048576 ∧ z = .int .i64 s ∧ i = .int .i64 k) (fun z i => n - (intOf i).toNat)
  case atStart => exact ⟨0, more, Nat.zero_le _, by omega, by omega, rfl, rfl⟩
  case round =>
    obtain ⟨k, s, hk, hs0, hs1, rfl, rfl⟩ := hrel
    by_cases hlt : k < n
    · obtain ⟨b, off, rfl, e0, e1, e2⟩ := E.look k hlt
      have hli : (k : Int) < (n : Int) := by omega
      obtain ⟨x, hx⟩ : ∃ x, x = (L k).1 := ⟨_, rfl⟩
      rw [← hx] at e0
      have hxs : x.size ≤ 1048576 := by rw [hx]; exact hsh k hlt
      clear hx e1 e2
      by_cases h3 : (1048576 : Int) < s + ((x.size : Int) + 16)
      · have d3 : decide ((1048576 : Int) < s + ((x.size : Int) + 16)) = true := decide_eq_true h3
        go_wp2_with fail
        go_ret
        exact ⟨Or.inl rfl, rfl⟩
      · have d3 : decide ((1048576 : Int) < s + ((x.size : Int) + 16)) = false := decide_eq_false h3
        go_wp2_with fail
        go_round
        case rel => exact ⟨k + 1, s + (x.size + 16), by omega, by omega, by omega, rfl, by go_num⟩
        case measure => simp [intOf]; omega
    · clear E
      go_wp2_with fail
      go_ret
      exact ⟨Or.inr ⟨rfl, hn⟩, rfl⟩
end Go.Proofs.Qxb6614828a
