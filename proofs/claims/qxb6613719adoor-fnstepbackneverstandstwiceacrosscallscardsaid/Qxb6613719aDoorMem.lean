/-
  Rows of memory that the call itself makes: 'Has w g e L': block g of w is a row of cells L (element type e), none of it frozen. Laws for 'make' and 'copy' whose world behind is a letter.
-/
import Derived.Test.Qxb6613719aDoorProg
import Derived.WalkKit
import Derived.WalkSpells
import Derived.WalkLawsBesides
import Derived.Laws.CopyOwn
import Derived.Deep.QuietTactic
import Derived.BigQuiet
namespace Go.Proofs.Qxb6613719aDoor
open Go.RowKit

structure Has (w : World) (g : Nat) (e : TypeId) (L : List Value) : Prop where
  blk : w.heap[g]? = some (.cells L.toArray e (0, 0))

theorem Has.lt {w : World} {g : Nat} {e : TypeId} {L : List Value} (h : Has w g e L) : g < w.heap.size := by
  rcases Nat.lt_or_ge g w.heap.size with h' | h'
  · exact h'
  · have := h.blk; rw [Array.getElem?_eq_none h'] at this; cases this
theorem Has.cell {w : World} {g : Nat} {e : TypeId} {L : List Value} (h : Has w g e L) (j : Nat) (v : Value) (hj : L[j]? = some v) : w.cell? ⟨g, j, none⟩ = some v := by
  rw [cell_of_row w g j _ e (0, 0) h.blk]; simpa using hj
theorem Has.free {w : World} {g : Nat} {e : TypeId} {L : List Value} (h : Has w g e L) (j : Nat) : w.frozen? ⟨g, j, none⟩ = false :=
  frozen_of_row w g j _ e h.blk
theorem Has.store {w : World} {g : Nat} {e : TypeId} {L : List Value} (h : Has w g e L) (j : Nat) (v : Value) : Has (w.setCell ⟨g, j, none⟩ v) g e (L.set j v) :=
  ⟨by rw [heap_setCell_same w g j _ e v h.blk]; simp⟩
theorem Has.other {w : World} {g : Nat} {e : TypeId} {L : List Value} (h : Has w g e L) (a : Addr) (v : Value) (hne : g ≠ a.block) : Has (w.setCell a v) g e L :=
  ⟨by rw [heap_setCell_other w a g v hne]; exact h.blk⟩
theorem Has.below {w w' : World} {g B : Nat} {e : TypeId} {L : List Value} (h : Has w g e L) (hb : Below B w w') (hg : g < B) : Has w' g e L :=
  ⟨by rw [hb.block g hg]; exact h.blk⟩
theorem Has.eqL {w : World} {g : Nat} {e : TypeId} {L L' : List Value} (h : Has w g e L) (hL : L = L') : Has w g e L' := hL ▸ h
theorem Has.drewN {w : World} {g : Nat} {e : TypeId} {L : List Value} (h : Has w g e L) (n : Nat) : Has (w.drewN n) g e L := ⟨h.blk⟩

theorem below_drewN' {B : Nat} {a w : World} (h : Below B a w) (n : Nat) : Below B a (w.drewN n) := ⟨h.os, h.tape, h.output, h.size, h.block⟩

/-- 'make([]T, n)': a new row of n zero elements, each one cell wide. THE RUN's EQUATION, to be laid ahead of a walk: the world behind is a letter. -/
theorem make_has {P : Program} (w : World) (t e : TypeId) (z : Value) (by8 n : Nat) (h1 : P.underlying t = some (.slice e)) (h2 : (P.info? e).map (fun i => (i.zero, i.size, i.bytes)) = some (some z, 1, by8)) (hzc : z.cells = #[z])
    (b2 : by8 * n ≤ 281474976710656) (b3 : n ≤ 1152921504606846976) :
    ∃ w', (Instr.makeSlice t (.int .i64 (n : Int)) (.int .i64 (n : Int))).run P w = .ok (.slice (some ⟨w.heap.size, 0, none⟩) n n) w' ∧
      Has w' w.heap.size e (List.replicate n z) ∧ w'.heap.size = w.heap.size + 1 ∧ Below w.heap.size w w' := by
  obtain ⟨i, hi, hz0, hz1, hz2⟩ := info_parts h2
  have hb : (i.bytes : Int) * (n : Int) ≤ 281474976710656 := by
    have h : ((i.bytes * n : Nat) : Int) ≤ 281474976710656 := by rw [hz2]; omega
    rwa [Int.natCast_mul] at h
  have hrun := run_make (P := P) w t e i z h1 hi hz0 .i64 .i64 (n : Int) (n : Int) (by omega) (Int.le_refl _) hb (by omega)
  rw [Int.toNat_natCast, hz1, hzc, Nat.mul_one] at hrun
  exact ⟨_, hrun, ⟨by rw [heap_alloc_new, ← toList_madeCells_one]⟩, by simp, (Below.refl _ _).alloc (Nat.le_refl _) _⟩

/-- 'copy(dst, src)' of a source as long as the destination row, which the call itself made: the run's equation. -/
theorem copy_has {P : Program} (w : World) (dT sT ty e : TypeId) (hu : P.underlying dT = some (.slice e)) (hsz : (P.info? e).map (·.size) = some 1)
    (g : Nat) (sp : Option Addr) (n dCap sCap : Nat) (cur : List Value) (hg : Has w g e cur) (cs : List Value) (hn : cs.length = n) (hm : cur.length = n)
    (hpos : 0 < n → ∃ ad, sp = some ad ∧ ∀ j v, cs[j]? = some v → w.cell? (ad.add j) = some v) (h1 : ∀ v ∈ cs, v.oneCell' = true) :
    ∃ w', (Builtin.copy_ #[dT, sT] ty #[.slice (some ⟨g, 0, none⟩) n dCap, .slice sp n sCap]).run P w = .ok (.int .i64 (n : Int)) w' ∧
      Has w' g e cs ∧ w'.heap.size = w.heap.size ∧ Below g w w' := by
  by_cases h0 : n = 0
  · subst h0
    have e1 : cs = [] := List.eq_nil_of_length_eq_zero hn
    have e2 : cur = [] := List.eq_nil_of_length_eq_zero hm
    subst e1; subst e2
    exact ⟨w, run_copy_none (P := P) w dT sT ty e _ sp 0 dCap 0 sCap hu hsz (by simp), hg, rfl, Below.refl _ _⟩
  · obtain ⟨ad, rfl, hsrc⟩ := hpos (by omega)
    have e3 : cur.toArray.toList.take 0 ++ cs ++ cur.toArray.toList.drop (0 + cs.length) = cs := by
      rw [show cur.toArray.toList = cur from rfl, List.drop_eq_nil_of_le (by omega)]; simp
    have hrun := run_copy_row (P := P) w dT sT ty e g 0 n dCap ad n sCap cur.toArray e cs hu hsz hg.blk (by simp [hn]) hsrc (by simp; omega) h1
    rw [e3, hn] at hrun
    exact ⟨_, hrun, ⟨setRow_heap w g _ _ e _ hg.blk⟩, size_setRow _ _ _, ⟨rfl, rfl, rfl, by simp [World.setRow], fun k hk => setRow_other w g k _ (by omega)⟩⟩

theorem addr_add (b off j : Nat) : (⟨b, off, none⟩ : Addr).add j = ⟨b, off + j, none⟩ := by
  by_cases h : j = 0
  · subst h; simp [Addr.add]
  · simp [Addr.add]
    intro h'; exact absurd h' h

/-- A source that came in: its cells, as a copy into a row of the call's own asks them. -/
theorem src_cells {w w1 : World} {x : Addr} {n : Nat} {k : IntKind} {zs : List Int} (hzl : n ≤ zs.length)
    (hc : ∀ i, i < n → w.cell? (x.add i) = some (.int k (zs.getD i 0))) (hb : Below w.heap.size w w1) :
    0 < n → ∃ ad, some x = some ad ∧ ∀ j v, ((zs.take n).map (Value.int k))[j]? = some v → w1.cell? (ad.add j) = some v := by
  intro _
  refine ⟨_, rfl, fun j v hj => ?_⟩
  have hj' : j < n := by
    rcases Nat.lt_or_ge j n with h | h
    · exact h
    · rw [List.getElem?_eq_none (by simp; omega)] at hj; cases hj
  have h1 := hc j hj'
  have hv : v = .int k (zs.getD j 0) := by
    rw [List.getElem?_map, List.getElem?_take_of_lt hj'] at hj
    simp only [List.getD_eq_getElem?_getD]
    rw [List.getElem?_eq_getElem (by omega)] at hj ⊢
    simpa using hj.symm
  subst hv
  rw [hb.cell (p := x.add j) (block_lt_of_cell h1)]
  exact h1
end Go.Proofs.Qxb6613719aDoor
