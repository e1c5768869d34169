import Derived.Test.Qxb6613719aDoorMem
import Derived.Laws.BitsAllLaws
namespace Go.Proofs.Qxb6613719aDoor
open Go.RowKit
theorem ret_int {k : IntKind} {a b : Int} (h : a = b) : Ending.returned (.int k a) = .returned (.int k b) := by rw [h]
theorem ret_bl {a b : Bool} (h : a = b) : Ending.returned (.bool a) = .returned (.bool b) := by rw [h]

/-- A SLICE OF INTEGERS THAT CAN BE READ: nil or empty, or at the head of a block whose cells are the numbers. -/
structure Row (w : World) (k : IntKind) (a : Option Addr) (zs : List Int) : Prop where
  look : ∀ (j : Nat) (z : Int), zs[j]? = some z → ∃ g, a = some ⟨g, 0, none⟩ ∧ w.cell? ⟨g, j, none⟩ = some (.int k z)
theorem Row.nil (w : World) (k : IntKind) (a : Option Addr) : Row w k a [] := ⟨fun j z h => by simp at h⟩
theorem Row.kept {w w' : World} {k : IntKind} {a : Option Addr} {zs : List Int} (h : Row w k a zs)
    (hk : ∀ g, a = some ⟨g, 0, none⟩ → g < w.heap.size → w'.heap[g]? = w.heap[g]?) : Row w' k a zs :=
  ⟨fun j z hj => by
    obtain ⟨g, ha, hc⟩ := h.look j z hj
    exact ⟨g, ha, (World.cell?_of_block (hk g ha (block_lt_of_cell hc))).trans hc⟩⟩
theorem Row.below {w w' : World} {k : IntKind} {a : Option Addr} {zs : List Int} (h : Row w k a zs) (hb : Below w.heap.size w w') : Row w' k a zs :=
  h.kept fun g _ hg => hb.block g hg
theorem Row.grown {w w' : World} {k : IntKind} {a : Option Addr} {zs : List Int} {row : Option Nat} (h : Row w k a zs) (hb : w.grownBy w' row) (hn : ∀ g, a = some ⟨g, 0, none⟩ → some g ≠ row) : Row w' k a zs :=
  h.kept fun g ha hg => hb.block g hg (hn g ha)
theorem Row.of_has {w : World} {k : IntKind} {g e : Nat} {zs : List Int} (h : Has w g e (zs.map (Value.int k))) : Row w k (some ⟨g, 0, none⟩) zs :=
  ⟨fun j z hj => ⟨g, rfl, h.cell j _ (by rw [List.getElem?_map, hj]; rfl)⟩⟩
theorem Row.drewN {w : World} {k : IntKind} {a : Option Addr} {zs : List Int} (h : Row w k a zs) (n : Nat) : Row (w.drewN n) k a zs := ⟨h.look⟩

def bitAt (ws : List Int) (i : Nat) : Bool := ((ws[i / 64]?).getD 0).toNat.testBit (i % 64)

theorem testBit_shr (W s : Nat) : ((W / 2 ^ s) &&& 1 != 0) = W.testBit s := by
  rw [Nat.and_one_is_mod, Nat.testBit, Nat.shiftRight_eq_div_pow, Nat.one_and_eq_mod_two]
theorem testBit_mask (W s : Nat) : ((W &&& 2 ^ s) != 0) = W.testBit s := by
  cases h : W.testBit s
  · have : W &&& 2 ^ s = 0 := by
      apply Nat.eq_of_testBit_eq
      intro i
      rw [Nat.testBit_and, Nat.testBit_two_pow, Nat.zero_testBit]
      by_cases hi : s = i
      · subst hi; simp [h]
      · simp [hi]
    simp [this]
  · rw [bne_iff_ne]
    intro h0
    have h1 : (W &&& 2 ^ s).testBit s = true := by rw [Nat.testBit_and, Nat.testBit_two_pow, h]; simp
    rw [h0] at h1
    simp at h1
theorem cast_bne (x : Nat) : (((x : Nat) : Int) != 0) = (x != 0) := by
  rw [Bool.eq_iff_iff, bne_iff_ne, bne_iff_ne]; omega
theorem bit_shr (W : Int) (s : Nat) (h0 : 0 ≤ W) (h1 : W ≤ 18446744073709551615) : (bits BinOp.and IntKind.u64 (W / 2 ^ s) 1 != 0) = W.toNat.testBit s := by
  obtain ⟨N, rfl⟩ := Int.eq_ofNat_of_zero_le h0
  have e : ((N : Int) / 2 ^ s) = ((N / 2 ^ s : Nat) : Int) := by simp
  have hN : N < 18446744073709551616 := by omega
  have hle : N / 2 ^ s < 18446744073709551616 := Nat.lt_of_le_of_lt (Nat.div_le_self _ _) hN
  rw [e, show (1 : Int) = ((1 : Nat) : Int) from rfl, u64_and_nat _ _ hle (by decide), ← testBit_shr, Int.toNat_natCast, cast_bne]
theorem bit_mask (W : Int) (s : Nat) (hs : s < 64) (h0 : 0 ≤ W) (h1 : W ≤ 18446744073709551615) : (bits BinOp.and IntKind.u64 W (IntKind.u64.wrap (2 ^ s)) != 0) = W.toNat.testBit s := by
  obtain ⟨N, rfl⟩ := Int.eq_ofNat_of_zero_le h0
  have hN : N < 18446744073709551616 := by omega
  have hp : 2 ^ s < 18446744073709551616 := by
    have : 2 ^ s < 2 ^ 64 := Nat.pow_lt_pow_right (by decide) hs
    simpa using this
  have e : IntKind.u64.wrap (2 ^ s) = ((2 ^ s : Nat) : Int) := by
    rw [show (2 : Int) ^ s = ((2 ^ s : Nat) : Int) from by simp]
    rw [IntKind.wrap_u64]
    generalize (2 ^ s : Nat) = p at *
    omega
  rw [e, u64_and_nat _ _ hN hp, ← testBit_mask, Int.toNat_natCast, cast_bne]

theorem getD_some {zs : List Int} {j : Nat} (h : j < zs.length) : zs[j]? = some (zs[j]?.getD 0) := by
  rw [List.getElem?_eq_getElem h]; rfl

set_option maxHeartbeats 400000 in
theorem stepBit_any (a : Option Addr) (n c i : Nat) (ws : List Int) (hn : ws.length = n) (hi : i / 64 < n) (hb : i < 1048576) (w : World)
   (hws : ∀ j : Nat, 0 ≤ ws[j]?.getD 0 ∧ ws[j]?.getD 0 ≤ 18446744073709551615) (hr : Row w .u64 a ws) :
    Calls Tryd.prog 6 #[.slice a n c, .int .i64 i] w fun e w' => e = .returned (.bool (bitAt ws i)) ∧ w' = w := by
  obtain ⟨g, rfl, hc⟩ := hr.look (i / 64) _ (getD_some (by omega))
  have hw0 := (hws (i / 64)).1
  have hw1 := (hws (i / 64)).2
  have HN : Hid (ws.length = n) := hn
  clear hr hws hn
  obtain ⟨W, hW⟩ : ∃ W, W = ws[i / 64]?.getD 0 := ⟨_, rfl⟩
  have HW : Hid (W = ws[i / 64]?.getD 0) := hW
  rw [← hW] at hc hw0 hw1
  clear hW
  go_enter Tryd.func6, Tryd.ntmps6
  go_wp2
  go_ret
  exact ⟨ret_bl (by rw [bit_shr W _ hw0 hw1]; unfold bitAt; rw [HW.out]), rfl⟩
set_option maxHeartbeats 400000 in
theorem bsHas_any (a : Option Addr) (n c i : Nat) (ws : List Int) (hn : ws.length = n) (hi : i / 64 < n) (hb : i < 1048576) (w : World)
   (hws : ∀ j : Nat, 0 ≤ ws[j]?.getD 0 ∧ ws[j]?.getD 0 ≤ 18446744073709551615) (hr : Row w .u64 a ws) :
    Calls Tryd.prog 19 #[.slice a n c, .int .i64 i] w fun e w' => e = .returned (.bool (bitAt ws i)) ∧ ∃ nq, w' = w.drewN nq := by
  obtain ⟨g, rfl, hc⟩ := hr.look (i / 64) _ (getD_some (by omega))
  have hw0 := (hws (i / 64)).1
  have hw1 := (hws (i / 64)).2
  clear hr hws hn
  obtain ⟨W, hW⟩ : ∃ W, W = ws[i / 64]?.getD 0 := ⟨_, rfl⟩
  have HW : Hid (W = ws[i / 64]?.getD 0) := hW
  rw [← hW] at hc hw0 hw1
  clear hW
  go_enter Tryd.func19, Tryd.ntmps19
  go_wp2
  go_quiet (fail)
  go_wp2
  go_ret
  exact ⟨ret_bl (by rw [bit_mask W _ (by omega) hw0 hw1]; unfold bitAt; rw [HW.out]), nq, rfl⟩
end Go.Proofs.Qxb6613719aDoor
