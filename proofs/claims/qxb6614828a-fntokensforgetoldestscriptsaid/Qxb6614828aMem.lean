/-
  Rows of memory that the call itself makes: 'Has w g e L': block g of w is a row of cells L (element type e), none of it frozen. Laws for 'make' and 'copy' whose world behind is a letter.
-/
import Derived.Test.Qxb6614828aProg
import Derived.WalkKit
import Derived.WalkSpells
import Derived.WalkLawsBesides
import Derived.Laws.CopyOwn
import Derived.Deep.QuietTactic
import Derived.BigQuiet
import Derived.Maps.Own
import Derived.Maps.OwnSet
import Derived.StringKeys
import Derived.ArgAppend
namespace Go.Proofs.Qxb6614828a
open Go.RowKit
set_option linter.unusedVariables false

structure Has (w : World) (g : Nat) (e : TypeId) (L : List Value) : Prop where
  blk : w.heap[g]? = some (.cells L.toArray e (0, 0))

theorem Has.lt {w : World} {g : Nat} {e : TypeId} {L : List Value} (h : Has w g e L) : g < w.heap.size := by
  rcases Nat.lt_or_ge g w.heap.size with h' | h'
  · exact h'
  · have := h.blk; rw [Array.getElem?_eq_none h'] at this; cases this
theorem Has.cell {w : World} {g : Nat} {e : TypeId} {L : List Value} (h : Has w g e L) (j : Nat) (v : Value) (hj : L[j]? = some v) : w.cell? ⟨g, j, none⟩ = some v := by
  rw [cell_of_row w g j _ e (0, 0) h.blk]; simpa using hj
theorem Has.free {w : World} {g : Nat} {e : TypeId} {L : List Value} (h : Has w g e L) (j : Nat) : w.frozen? ⟨g, j, none⟩ = false :=
  frozen_of_row w g j _ e h.blk
theorem Has.store {w : World} {g : Nat} {e : TypeId} {L : List Value} (h : Has w g e L) (j : Nat) (v : Value) : Has (w.setCell ⟨g, j, none⟩ v) g e (L.set j v) :=
  ⟨by rw [heap_setCell_same w g j _ e v h.blk]; simp⟩
theorem Has.other {w : World} {g : Nat} {e : TypeId} {L : List Value} (h : Has w g e L) (a : Addr) (v : Value) (hne : g ≠ a.block) : Has (w.setCell a v) g e L :=
  ⟨by rw [heap_setCell_other w a g v hne]; exact h.blk⟩
theorem Has.below {w w' : World} {g B : Nat} {e : TypeId} {L : List Value} (h : Has w g e L) (hb : Below B w w') (hg : g < B) : Has w' g e L :=
  ⟨by rw [hb.block g hg]; exact h.blk⟩
theorem Has.eqL {w : World} {g : Nat} {e : TypeId} {L L' : List Value} (h : Has w g e L) (hL : L = L') : Has w g e L' := hL ▸ h
theorem Has.drewN {w : World} {g : Nat} {e : TypeId} {L : List Value} (h : Has w g e L) (n : Nat) : Has (w.drewN n) g e L := ⟨h.blk⟩

theorem below_drewN' {B : Nat} {a w : World} (h : Below B a w) (n : Nat) : Below B a (w.drewN n) := ⟨h.os, h.tape, h.output, h.size, h.block⟩

/-- 'make([]T, n)': a new row of n zero elements, each one cell wide. THE RUN's EQUATION, to be laid ahead of a walk: the world behind is a letter. -/
theorem make_has {P : Program} (w : World) (t e : TypeId) (z : Value) (by8 n : Nat) (h1 : P.underlying t = some (.slice e)) (h2 : (P.info? e).map (fun i => (i.zero, i.size, i.bytes)) = some (some z, 1, by8)) (hzc : z.cells = #[z])
    (b2 : by8 * n ≤ 281474976710656) (b3 : n ≤ 1152921504606846976) :
    ∃ w', (Instr.makeSlice t (.int .i64 (n : Int)) (.int .i64 (n : Int))).run P w = .ok (.slice (some ⟨w.heap.size, 0, none⟩) n n) w' ∧
      Has w' w.heap.size e (List.replicate n z) ∧ w'.heap.size = w.heap.size + 1 ∧ Below w.heap.size w w' := by
  obtain ⟨i, hi, hz0, hz1, hz2⟩ := info_parts h2
  have hb : (i.bytes : Int) * (n : Int) ≤ 281474976710656 := by
    have h : ((i.bytes * n : Nat) : Int) ≤ 281474976710656 := by rw [hz2]; omega
    rwa [Int.natCast_mul] at h
  have hrun := run_make (P := P) w t e i z h1 hi hz0 .i64 .i64 (n : Int) (n : Int) (by omega) (Int.le_refl _) hb (by omega)
  rw [Int.toNat_natCast, hz1, hzc, Nat.mul_one] at hrun
  exact ⟨_, hrun, ⟨by rw [heap_alloc_new, ← toList_madeCells_one]⟩, by simp, (Below.refl _ _).alloc (Nat.le_refl _) _⟩

/-- 'copy(dst, src)' of a source as long as the destination row, which the call itself made: the run's equation. -/
theorem copy_has {P : Program} (w : World) (dT sT ty e : TypeId) (hu : P.underlying dT = some (.slice e)) (hsz : (P.info? e).map (·.size) = some 1)
    (g : Nat) (sp : Option Addr) (n dCap sCap : Nat) (cur : List Value) (hg : Has w g e cur) (cs : List Value) (hn : cs.length = n) (hm : cur.length = n)
    (hpos : 0 < n → ∃ ad, sp = some ad ∧ ∀ j v, cs[j]? = some v → w.cell? (ad.add j) = some v) (h1 : ∀ v ∈ cs, v.oneCell' = true) :
    ∃ w', (Builtin.copy_ #[dT, sT] ty #[.slice (some ⟨g, 0, none⟩) n dCap, .slice sp n sCap]).run P w = .ok (.int .i64 (n : Int)) w' ∧
      Has w' g e cs ∧ w'.heap.size = w.heap.size ∧ Below g w w' := by
  by_cases h0 : n = 0
  · subst h0
    have e1 : cs = [] := List.eq_nil_of_length_eq_zero hn
    have e2 : cur = [] := List.eq_nil_of_length_eq_zero hm
    subst e1; subst e2
    exact ⟨w, run_copy_none (P := P) w dT sT ty e _ sp 0 dCap 0 sCap hu hsz (by simp), hg, rfl, Below.refl _ _⟩
  · obtain ⟨ad, rfl, hsrc⟩ := hpos (by omega)
    have e3 : cur.toArray.toList.take 0 ++ cs ++ cur.toArray.toList.drop (0 + cs.length) = cs := by
      rw [show cur.toArray.toList = cur from rfl, List.drop_eq_nil_of_le (by omega)]; simp
    have hrun := run_copy_row (P := P) w dT sT ty e g 0 n dCap ad n sCap cur.toArray e cs hu hsz hg.blk (by simp [hn]) hsrc (by simp; omega) h1
    rw [e3, hn] at hrun
    exact ⟨_, hrun, ⟨setRow_heap w g _ _ e _ hg.blk⟩, size_setRow _ _ _, ⟨rfl, rfl, rfl, by simp [World.setRow], fun k hk => setRow_other w g k _ (by omega)⟩⟩

theorem addr_add (b off j : Nat) : (⟨b, off, none⟩ : Addr).add j = ⟨b, off + j, none⟩ := by
  by_cases h : j = 0
  · subst h; simp [Addr.add]
  · simp [Addr.add]
    intro h'; exact absurd h' h


open Go.ChangeMaps Go.MapKept
open Go.Maps (Keyed)
/-- A ghost reader of the map's elements: a pointer to the front of a block reads as the block's number. -/
def ptrElem : Value → Option (DataW Unit × List MemPlace)
  | .pointer none => some (.lit (.int .i64 (-1)), [])
  | .pointer (some ⟨q, 0, none⟩) => some (.lit (.int .i64 (q : Int)), [])
  | _ => none
theorem ptrElem_some {v : Value} {q : Nat} {ps : List MemPlace} (h : ptrElem v = some (.lit (.int .i64 (q : Int)), ps)) : v = .pointer (some ⟨q, 0, none⟩) := by
  unfold ptrElem at h
  split at h
  · simp at h
  · rename_i q'
    simp at h
    have e : q' = q := by omega
    rw [e]
  · cases h
theorem ptrElem_none {v : Value} {ps : List MemPlace} (h : ptrElem v = some (.lit (.int .i64 (-1)), ps)) : v = .pointer none := by
  unfold ptrElem at h
  split at h
  · rfl
  · simp at h
  · cases h
theorem zero55 (w : World) : (zeroValue 55).run Try.prog w = .ok (.pointer none) w := by kernel_rfl
theorem keyed9 : Keyed Try.prog 9 := Go.Maps.string_keyed Try.underlying9
def kb (s : ByteArray) : List UInt8 := s.data.toList
def put (f : List UInt8 → Option Nat) (k : List UInt8) (q : Nat) : List UInt8 → Option Nat := fun k' => if k' = k then some q else f k'
def del (f : List UInt8 → Option Nat) (k : List UInt8) : List UInt8 → Option Nat := fun k' => if k' = k then none else f k'
def litOf (o : Option Nat) : DataW Unit := match o with
  | some q => .lit (.int .i64 (q : Int))
  | none => .lit (.int .i64 (-1))
/-- Block b is a map of at most n entries from strings to blocks. -/
structure KMap (w : World) (b n : Nat) (f : List UInt8 → Option Nat) : Prop where
  ex : ∃ D : DataW Unit, w.ownsMap Try.prog 9 ptrElem b n D ∧ ∀ k : List UInt8, Go.Maps.has D (.string k) = (f k).isSome ∧ D.atKey (.string k) (.lit (.int .i64 (-1))) = litOf (f k)
theorem KMap.made (w : World) : KMap (w.alloc (.map #[] 0)) w.heap.size 0 (fun _ => none) :=
  ⟨⟨.map [], World.ownsMap_made _ _ _ _, fun k => ⟨rfl, rfl⟩⟩⟩
theorem KMap.lt {w : World} {b n : Nat} {f : List UInt8 → Option Nat} (h : KMap w b n f) : b < w.heap.size := by
  obtain ⟨D, h1, _⟩ := h.ex; exact h1.lt
theorem KMap.keep {w w' : World} {b n : Nat} {f : List UInt8 → Option Nat} (h : KMap w b n f) (hb : w'.heap[b]? = w.heap[b]?) : KMap w' b n f := by
  obtain ⟨D, ⟨es, clock, h1, h2, h3⟩, h4⟩ := h.ex
  exact ⟨⟨D, ⟨es, clock, hb.trans h1, h2, h3⟩, h4⟩⟩
theorem KMap.look {w : World} {b n : Nat} {f : List UInt8 → Option Nat} (h : KMap w b n f) (s : ByteArray) (hs : s.size ≤ maxLen) :
    (Instr.lookup 54 (.map (some b)) (.string s) true).run Try.prog w = .ok (.tuple #[.pointer ((f (kb s)).map fun q => ⟨q, 0, none⟩), .bool (f (kb s)).isSome]) w := by
  obtain ⟨D, h1, h2⟩ := h.ex
  obtain ⟨v, ps, hrun, hv⟩ := h1.look_ok keyed9 Try.underlying54 (zero55 w) (zd := .lit (.int .i64 (-1))) (zp := []) rfl (Go.WideMaps.keyOf_string_mk Try.underlying9 hs)
  rw [hrun]
  have h3 := h2 (kb s)
  rw [show s.data.toList = kb s from rfl, h3.1]
  rw [show s.data.toList = kb s from rfl, h3.2] at hv
  cases hf : f (kb s) with
  | none => rw [hf] at hv; rw [ptrElem_none hv]; rfl
  | some q => rw [hf] at hv; rw [ptrElem_some hv]; rfl
theorem isKey (k : List UInt8) : WideAt.IsKeyLit (.string k) := by trivial
theorem KMap.put {w : World} {b n : Nat} {f : List UInt8 → Option Nat} (h : KMap w b n f) (hn : n < maxLen) (s : ByteArray) (hs : s.size ≤ maxLen) (q : Nat) :
    ∃ w', (Instr.mapUpdate 54 (.map (some b)) (.string s) (.pointer (some ⟨q, 0, none⟩))).run Try.prog w = .ok () w' ∧ KMap w' b (n + 1) (put f (kb s) q) ∧ w'.heap.size = w.heap.size ∧ w.grownBy w' (some b) := by
  obtain ⟨D, h1, h2⟩ := h.ex
  obtain ⟨w', hrun, ho, ht⟩ := h1.store keyed9 Try.underlying54 hn (val := .pointer (some ⟨q, 0, none⟩)) (d := .lit (.int .i64 (q : Int))) (ps := []) (Go.WideMaps.keyOf_string_mk Try.underlying9 hs) rfl
  refine ⟨w', hrun, ⟨⟨_, ho, fun k => ?_⟩⟩, ?_, ht.grown⟩
  · unfold Qxb6614828a.put
    by_cases hk : k = kb s
    · subst hk
      rw [if_pos rfl]
      exact ⟨Go.Maps.has_put_same h1.isMap (isKey _) _, Go.Maps.atKey_put_same h1.isMap (isKey _) _ _⟩
    · rw [if_neg hk]
      have hne : (Lit.string k) ≠ .string (kb s) := fun e => hk (by injection e)
      exact ⟨(Go.Maps.has_put_other hne _).trans (h2 k).1, (Go.Maps.atKey_put_other hne _ _).trans (h2 k).2⟩
  · obtain ⟨es, c, es', c', _, rfl⟩ := ht
    simp [setBlock]
theorem KMap.del {w : World} {b n : Nat} {f : List UInt8 → Option Nat} (h : KMap w b n f) (s : ByteArray) (hs : s.size ≤ maxLen) (ty : TypeId) :
    ∃ w', (Builtin.delete_ #[54, 9] ty #[.map (some b), .string s]).run Try.prog w = .ok (.tuple #[]) w' ∧ KMap w' b n (del f (kb s)) ∧ w'.heap.size = w.heap.size ∧ w.grownBy w' (some b) := by
  obtain ⟨D, h1, h2⟩ := h.ex
  obtain ⟨w', hrun, ho, ht⟩ := h1.drop keyed9 Try.underlying54 (Go.WideMaps.keyOf_string_mk Try.underlying9 hs) ty
  refine ⟨w', hrun, ⟨⟨_, ho, fun k => ?_⟩⟩, ?_, ht.grown⟩
  · unfold Qxb6614828a.del
    by_cases hk : k = kb s
    · subst hk
      rw [if_pos rfl]
      exact ⟨Go.Maps.has_del_same, Go.Maps.atKey_del_same _⟩
    · rw [if_neg hk]
      have hne : (Lit.string k) ≠ .string (kb s) := fun e => hk (by injection e)
      exact ⟨(Go.Maps.has_del_other hne).trans (h2 k).1, (Go.Maps.atKey_del_other hne _).trans (h2 k).2⟩
  · obtain ⟨es, c, es', c', _, rfl⟩ := ht
    simp [setBlock]
end Go.Proofs.Qxb6614828a
