import Derived.Test.Qxb6613719aDoorZZ
import Derived.Test.Qxb6613719aDoorCount
import Derived.Test.Qxb6613719aDoorPrefix
import Derived.Test.Qxb6613719aDoorBytes
namespace Go.Proofs.Qxb6613719aDoor
open Go.RowKit
set_option linter.unusedVariables false

theorem Tryd.info38 : (Tryd.prog.info? 38).map (fun i => (i.zero, i.size, i.bytes)) = some (some (.int .u64 0), 1, 8) := by kernel_rfl
theorem Tryd.size38 : (Tryd.prog.info? 38).map (·.size) = some 1 := by kernel_rfl
theorem Tryd.size21 : (Tryd.prog.info? 21).map (·.size) = some 1 := by kernel_rfl

/-- A slice of integers that came in, its elements zs. -/
structure Src (w : World) (k : IntKind) (a : Option Addr) (zs : List Int) : Prop where
  nil : a = none → zs.length = 0
  look : ∀ (j : Nat) (z : Int), zs[j]? = some z → ∃ ad, a = some ad ∧ w.cell? (ad.add j) = some (.int k z)
theorem Src.below {w w' : World} {k : IntKind} {a : Option Addr} {zs : List Int} (h : Src w k a zs) (hb : Below w.heap.size w w') : Src w' k a zs :=
  ⟨h.nil, fun j z hj => by
    obtain ⟨ad, ha, hc⟩ := h.look j z hj
    exact ⟨ad, ha, (hb.cell (p := ad.add j) (block_lt_of_cell hc)).trans hc⟩⟩
theorem Src.src {w : World} {a : Option Addr} {k : IntKind} {zs : List Int} (hr : Src w k a zs) :
    0 < zs.length → ∃ ad, a = some ad ∧ ∀ j v, (zs.map (Value.int k))[j]? = some v → w.cell? (ad.add j) = some v := by
  intro h0
  obtain ⟨ad, ha, _⟩ := hr.look 0 _ (getD_some h0)
  refine ⟨ad, ha, fun j v hj => ?_⟩
  rw [List.getElem?_map] at hj
  cases hz : zs[j]? with
  | none => rw [hz] at hj; cases hj
  | some z =>
    rw [hz] at hj
    simp at hj
    subst hj
    obtain ⟨ad', ha', hc'⟩ := hr.look j z hz
    rw [ha] at ha'
    cases ha'
    exact hc'

/-- What '.. != nil { a copy first }' leaves: the slot's value, its row in new memory. -/
def Copied (w wc : World) (k : IntKind) (s : Value) (zs : List Int) : Prop :=
  (∃ a c, s = .slice a zs.length c ∧ Row wc k a zs ∧ ∀ q, a = some ⟨q, 0, none⟩ → w.heap.size ≤ q ∧ q < wc.heap.size) ∧ Below w.heap.size w wc

/-- The two run equations of such a copy, and what they leave. -/
theorem copied {w : World} {k : IntKind} {x : Addr} {zs : List Int} {c : Nat} (h : Src w k (some x) zs) (T e by8 : Nat) (hT : Tryd.prog.underlying T = some (.slice e)) (hi : (Tryd.prog.info? e).map (fun i => (i.zero, i.size, i.bytes)) = some (some (.int k 0), 1, by8))
    (hs : (Tryd.prog.info? e).map (·.size) = some 1) (hn : zs.length ≤ 1048576) (hb8 : by8 ≤ 8) :
    ∃ w1 w2, (Instr.makeSlice T (.int .i64 (zs.length : Int)) (.int .i64 (zs.length : Int))).run Tryd.prog w = .ok (.slice (some ⟨w.heap.size, 0, none⟩) zs.length zs.length) w1 ∧
      (Builtin.copy_ #[T, T] 3 #[.slice (some ⟨w.heap.size, 0, none⟩) zs.length zs.length, .slice (some x) zs.length c]).run Tryd.prog w1 = .ok (.int .i64 (zs.length : Int)) w2 ∧
      Copied w w2 k (.slice (some ⟨w.heap.size, 0, none⟩) zs.length zs.length) zs := by
  obtain ⟨w1, r1, h1, s1, b1⟩ := make_has (P := Tryd.prog) w T e (.int k 0) by8 zs.length hT hi rfl (by
    have : by8 * zs.length ≤ 8 * 1048576 := Nat.mul_le_mul hb8 hn
    omega) (by omega)
  obtain ⟨w2, r2, h2, s2, b2⟩ := copy_has (P := Tryd.prog) w1 T T 3 e hT hs w.heap.size (some x) zs.length zs.length c _ h1 (zs.map (Value.int k)) (by simp) (by simp) (h.below b1).src (ints_oneCell _ _)
  exact ⟨w1, w2, r1, r2, ⟨_, _, rfl, Row.of_has h2, fun q hq => by cases hq; exact ⟨Nat.le_refl _, by omega⟩⟩, b1.trans b2⟩
theorem copied_none {w : World} {zs : List Int} {c : Nat} (k : IntKind) (h : Src w k none zs) : Copied w w k (.slice none zs.length c) zs := by
  have e : zs = [] := List.eq_nil_of_length_eq_zero (h.nil rfl)
  subst e
  exact ⟨⟨none, c, rfl, Row.nil _ _ _, fun q hq => by cases hq⟩, Below.refl _ _⟩
theorem copied_nil {w : World} (k : IntKind) : Copied w w k (.slice none 0 0) [] := ⟨⟨none, 0, rfl, Row.nil _ _ _, fun q hq => by cases hq⟩, Below.refl _ _⟩

def seqTail : Nat → Code → Code
  | 0, c => c
  | n + 1, .seq _ b => seqTail n b
  | _ + 1, c => c
def reachB (bc bf : Bool) (y start x : Int) : Bool := (bc && x == y - 1) || (bf && x == start)
end Go.Proofs.Qxb6613719aDoor
