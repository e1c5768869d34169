import Derived.Test.Qxb6613719aDoorPairs
namespace Go.Proofs.Qxb6613719aDoor
open Go.RowKit
set_option linter.unusedVariables false
/-- A slice of integers wherever it begins (an argument). -/
structure RowO (w : World) (k : IntKind) (a : Option Addr) (zs : List Int) : Prop where
  look : ∀ (j : Nat) (z : Int), zs[j]? = some z → ∃ b off, a = some ⟨b, off, none⟩ ∧ w.cell? ⟨b, off + j, none⟩ = some (.int k z)
theorem RowO.below {w w' : World} {k : IntKind} {a : Option Addr} {zs : List Int} (h : RowO w k a zs) (hb : Below w.heap.size w w') : RowO w' k a zs :=
  ⟨fun j z hj => by
    obtain ⟨b, off, ha, hc⟩ := h.look j z hj
    exact ⟨b, off, ha, (hb.cell (p := ⟨b, off + j, none⟩) (block_lt_of_cell hc)).trans hc⟩⟩
theorem RowO.of_row {w : World} {k : IntKind} {a : Option Addr} {zs : List Int} (h : Row w k a zs) : RowO w k a zs :=
  ⟨fun j z hj => by
    obtain ⟨g, ha, hc⟩ := h.look j z hj
    exact ⟨g, 0, ha, by rw [Nat.zero_add]; exact hc⟩⟩

theorem Tryd.size3 : (Tryd.prog.info? 3).map (·.size) = some 1 := by kernel_rfl
theorem srcO {w w1 : World} {a : Option Addr} {k : IntKind} {zs : List Int} (hr : RowO w1 k a zs) :
    0 < zs.length → ∃ ad, a = some ad ∧ ∀ j v, (zs.map (Value.int k))[j]? = some v → w1.cell? (ad.add j) = some v := by
  intro h0
  obtain ⟨b, off, ha, _⟩ := hr.look 0 _ (getD_some h0)
  refine ⟨_, ha, fun j v hj => ?_⟩
  rw [List.getElem?_map] at hj
  cases hz : zs[j]? with
  | none => rw [hz] at hj; cases hj
  | some z =>
    rw [hz] at hj
    simp at hj
    subst hj
    obtain ⟨b', off', ha', hc'⟩ := hr.look j z hz
    rw [ha] at ha'
    cases ha'
    rw [addr_add]
    exact hc'

set_option maxRecDepth 100000 in
set_option maxHeartbeats 400000 in
theorem clone_any (a : Option Addr) (c : Nat) (M : List Int) (w : World) (hn : M.length ≤ 16384) (hr : RowO w .i64 a M) (hnil : a = none → M.length = 0) :
    Calls Tryd.prog 7 #[.slice a M.length c] w fun e w' => ∃ ma, e = .returned (.slice ma M.length M.length) ∧ (0 < M.length → ma = some ⟨w.heap.size, 0, none⟩ ∧ Has w' w.heap.size 3 (M.map (Value.int .i64))) ∧ Below w.heap.size w w' := by
  cases a with
  | none =>
    have h0 := hnil rfl
    have e0 : M = [] := List.eq_nil_of_length_eq_zero h0
    subst e0
    simp only [List.length_nil]
    clear hr hnil hn h0
    have heq : (binOp .eql 22 (.slice none 0 c) (.slice none 0 0)).run Tryd.prog w = .ok (.bool true) w := Lib.run_eql_slice_nil (P := Tryd.prog) w 22 3 none 0 c 0 0 Tryd.underlying22
    go_enter Tryd.func7, Tryd.ntmps7
    go_wp2
    go_ret
    exact ⟨none, rfl, fun h => absurd h (by simp), Below.refl _ _⟩
  | some x =>
    obtain ⟨w1, r1, h1, s1, b1⟩ := make_has (P := Tryd.prog) w 22 3 (.int .i64 0) 8 M.length Tryd.underlying22 Tryd.info3 rfl (by omega) (by omega)
    obtain ⟨w2, r2, h2, s2, b2⟩ := copy_has (P := Tryd.prog) w1 22 22 3 3 Tryd.underlying22 Tryd.size3 w.heap.size (some x) M.length M.length c _ h1 (M.map (Value.int .i64)) (by simp) (by simp) (srcO (w := w) (hr.below b1)) (ints_oneCell _ _)
    have B2 : Below w.heap.size w w2 := b1.trans b2
    clear hr hnil b1 b2 h1 s1 s2
    have heq := Lib.run_eql_slice_nil (P := Tryd.prog) w 22 3 (some x) M.length c 0 0 Tryd.underlying22
    go_enter Tryd.func7, Tryd.ntmps7
    go_wp2
    go_ret
    exact ⟨_, rfl, fun _ => ⟨rfl, h2⟩, B2⟩

/-- how often x stands in ps -/
def countOf (x : Int) : List Int → Nat
  | [] => 0
  | p :: r => (if p = x then 1 else 0) + countOf x r
theorem countOf_append (x : Int) : ∀ a b : List Int, countOf x (a ++ b) = countOf x a + countOf x b
  | [], b => by simp [countOf]
  | p :: r, b => by simp [countOf, countOf_append x r b]; omega
theorem countOf_le (x : Int) : ∀ a : List Int, countOf x a ≤ a.length
  | [] => by simp [countOf]
  | p :: r => by have := countOf_le x r; simp [countOf]; split <;> omega
theorem countOf_take_succ (x : Int) (l : List Int) (k : Nat) (h : k < l.length) : countOf x (l.take (k + 1)) = countOf x (l.take k) + (if l[k]?.getD 0 = x then 1 else 0) := by
  rw [List.take_succ_eq_append_getElem h, countOf_append, List.getElem?_eq_getElem h]
  simp [countOf]

set_option maxHeartbeats 400000 in
theorem count_any (a : Option Addr) (c : Nat) (ps : List Int) (x : Int) (w : World) (hn : ps.length ≤ 20000) (hb : ∀ j : Nat, -2147483648 ≤ ps[j]?.getD 0 ∧ ps[j]?.getD 0 ≤ 2147483647) (hr : RowO w .i32 a ps) :
    Calls Tryd.prog 13 #[.slice a ps.length c, .int .i64 x] w fun e w' => e = .returned (.int .i64 (countOf x ps)) ∧ w' = w := by
  have HB : Hid (∀ j : Nat, -2147483648 ≤ ps[j]?.getD 0 ∧ ps[j]?.getD 0 ≤ 2147483647) := hb
  clear hb
  go_enter Tryd.func13, Tryd.ntmps13
  go_wp2
  go_loop [5, 6] (fun t i => ∃ k : Nat, k ≤ ps.length ∧ i = .int .i64 k ∧ t = .int .i64 (countOf x (ps.take k))) (fun _ i => ps.length - (intOf i).toNat)
  case atStart => exact ⟨0, Nat.zero_le _, rfl, rfl⟩
  case round =>
    obtain ⟨k, hk, rfl, rfl⟩ := hrel
    by_cases hlt : k < ps.length
    · obtain ⟨b, off, rfl, cp⟩ := hr.look k _ (getD_some hlt)
      have hsu := countOf_take_succ x ps k hlt
      have hle := countOf_le x (ps.take k)
      have hll : (ps.take k).length ≤ 20000 := by simp; omega
      obtain ⟨C0, hC0⟩ : ∃ C0, C0 = countOf x (ps.take k) := ⟨_, rfl⟩
      obtain ⟨pv, hpv⟩ : ∃ pv, pv = ps[k]?.getD 0 := ⟨_, rfl⟩
      have hb1 := (HB.out k).1
      have hb2 := (HB.out k).2
      rw [← hpv] at cp hsu hb1 hb2
      rw [← hC0] at hsu hle ⊢
      have HS : Hid (countOf x (ps.take (k + 1)) = C0 + if pv = x then 1 else 0) := hsu
      clear hsu hpv hC0 hr
      have hli : (k : Int) < (ps.length : Int) := by omega
      have hC1 : C0 ≤ 20000 := by omega
      by_cases he : pv = x
      · have hbq : (pv == x) = true := by rw [beq_iff_eq]; exact he
        have HE : Hid (pv = x) := he
        clear he
        go_wp2
        go_round
        case rel => exact ⟨k + 1, by omega, by go_num, by rw [HS.out, if_pos HE.out]; go_num⟩
        case measure => simp [intOf]; omega
      · have hbq : (pv == x) = false := by rw [beq_eq_false_iff_ne]; exact he
        have HE : Hid (¬ pv = x) := he
        clear he
        go_wp2
        go_round
        case rel => exact ⟨k + 1, by omega, by go_num, by rw [HS.out, if_neg HE.out]; go_num⟩
        case measure => simp [intOf]; omega
    · obtain rfl : k = ps.length := by omega
      go_wp2
      go_ret
      exact ⟨ret_int (by simp), rfl⟩
end Go.Proofs.Qxb6613719aDoor
