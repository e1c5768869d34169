import Derived.Test.Qxb6613719aDoorSt
import Derived.Deep.DeepCutAuto
namespace Go.Proofs.Qxb6613719aDoor
open Go.RowKit
set_option linter.unusedVariables false
theorem Tryd.info21 : (Tryd.prog.info? 21).map (fun i => (i.zero, i.size, i.bytes)) = some (some (.int .i32 0), 1, 4) := by kernel_rfl
theorem Tryd.info3 : (Tryd.prog.info? 3).map (fun i => (i.zero, i.size, i.bytes)) = some (some (.int .i64 0), 1, 8) := by kernel_rfl

theorem Own.free {w : World} {h n cap : Nat} {xs : List Value} (o : Own w h n cap xs) (j : Nat) : w.frozen? ⟨h, j, none⟩ = false := by
  obtain ⟨cur, hb, _, _⟩ := o.blk
  exact frozen_of_row w h j _ 60 hb
theorem Own.store {w : World} {h n cap : Nat} {xs : List Value} (o : Own w h n cap xs) (j : Nat) (hj : j < n * 2) (v : Value) : Own (w.setCell ⟨h, j, none⟩ v) h n cap (xs.set j v) := by
  obtain ⟨cur, hb, hs, ht⟩ := o.blk
  refine ⟨by rw [List.length_set]; exact o.len, o.le, o.max, _, heap_setCell_same w h j _ 60 v hb, by simpa using hs, ?_⟩
  rw [← ht, Array.toList_setIfInBounds, List.take_set]

/-- 'make([]thread, n)': a row of n zero threads. -/
theorem make_th (w : World) (n : Nat) (hn : n ≤ 1048576) :
    ∃ w', (Instr.makeSlice 51 (.int .i64 (n : Int)) (.int .i64 (n : Int))).run Tryd.prog w = .ok (.slice (some ⟨w.heap.size, 0, none⟩) n n) w' ∧
      Own w' w.heap.size n n (madeCells #[.int .i32 0, .int .i64 0] (n * 2)).toList ∧ w'.heap.size = w.heap.size + 1 ∧ Below w.heap.size w w' := by
  obtain ⟨i, hi, hz0, hz1, hz2⟩ := info_parts Tryd.info60
  have hb : (i.bytes : Int) * (n : Int) ≤ 281474976710656 := by rw [hz2]; omega
  have hrun := run_make (P := Tryd.prog) w 51 60 i (.agg #[.int .i32 0, .int .i64 0]) Tryd.underlying51 hi hz0 .i64 .i64 (n : Int) (n : Int) (by omega) (Int.le_refl _) hb (by omega)
  rw [Int.toNat_natCast, hz1] at hrun
  refine ⟨_, hrun, ⟨by simp [size_madeCells], Nat.le_refl _, by unfold maxLen; omega, _, heap_alloc_new _ _, size_madeCells _ _, ?_⟩, by simp, (Below.refl _ _).alloc (Nat.le_refl _) _⟩
  rw [List.take_of_length_le (by simp [size_madeCells])]
  rfl

/-- The threads of two plain lists. -/
def pairs : List Int → List Int → List Value
  | p :: ps, e :: es => .int .i32 p :: .int .i64 e :: pairs ps es
  | _, _ => []
theorem pairs_len : ∀ (ps es : List Int), ps.length = es.length → (pairs ps es).length = ps.length * 2
  | [], [], _ => rfl
  | [], _ :: _, h => by simp at h
  | _ :: _, [], h => by simp at h
  | p :: ps, e :: es, h => by
    have := pairs_len ps es (by simpa using h)
    simp [pairs, this]; omega
theorem pairs_get : ∀ (ps es : List Int) (j : Nat), ps.length = es.length → j < ps.length → (pairs ps es)[j * 2]? = some (.int .i32 (ps[j]?.getD 0)) ∧ (pairs ps es)[j * 2 + 1]? = some (.int .i64 (es[j]?.getD 0))
  | [], _, j, _, hj => by simp at hj
  | _ :: _, [], j, h, _ => by simp at h
  | p :: ps, e :: es, 0, h, hj => by simp [pairs]
  | p :: ps, e :: es, j + 1, h, hj => by
    have := pairs_get ps es j (by simpa using h) (by simpa using hj)
    rw [show (j + 1) * 2 = j * 2 + 2 from by omega, show j * 2 + 2 + 1 = (j * 2 + 1) + 2 from by omega]
    simp [pairs, this]
theorem pairs_append : ∀ (ps es ps' es' : List Int), ps.length = es.length → pairs (ps ++ ps') (es ++ es') = pairs ps es ++ pairs ps' es'
  | [], [], _, _, _ => rfl
  | [], _ :: _, _, _, h => by simp at h
  | _ :: _, [], _, _, h => by simp at h
  | p :: ps, e :: es, ps', es', h => by simp [pairs, pairs_append ps es ps' es' (by simpa using h)]
theorem pairs_thr (en : Int) : ∀ l : List Int, pairs l (List.replicate l.length en) = thr en l
  | [] => rfl
  | x :: r => by simp [List.replicate_succ, pairs, thr, pairs_thr en r]

/-- A row of threads, filled up to place k. -/
def fill (P E : List Int) (Z : List Value) (k : Nat) : List Value := pairs (P.take k) (E.take k) ++ Z.drop (k * 2)
theorem fill_zero (P E : List Int) (Z : List Value) : fill P E Z 0 = Z := by simp [fill, pairs]
theorem fill_len (P E : List Int) (Z : List Value) (k : Nat) (hk : k ≤ P.length) (he : P.length = E.length) (hz : Z.length = P.length * 2) : (fill P E Z k).length = P.length * 2 := by
  unfold fill
  rw [List.length_append, pairs_len _ _ (by simp; omega), List.length_drop, hz]
  simp; omega
theorem fill_all (P E : List Int) (Z : List Value) (he : P.length = E.length) (hz : Z.length = P.length * 2) : fill P E Z P.length = pairs P E := by
  unfold fill
  rw [List.drop_eq_nil_of_le (by omega), List.append_nil, List.take_of_length_le (Nat.le_refl _), List.take_of_length_le (by omega)]
theorem fill_set (P E : List Int) (Z : List Value) (k : Nat) (hk : k < P.length) (he : P.length = E.length) (hz : Z.length = P.length * 2) :
    ((fill P E Z k).set (k * 2) (.int .i32 (P[k]?.getD 0))).set (k * 2 + 1) (.int .i64 (E[k]?.getD 0)) = fill P E Z (k + 1) := by
  have hl : (pairs (P.take k) (E.take k)).length = k * 2 := by rw [pairs_len _ _ (by simp; omega)]; simp; omega
  have hP : P.take (k + 1) = P.take k ++ [P[k]?.getD 0] := by
    rw [List.take_succ_eq_append_getElem hk, List.getElem?_eq_getElem hk]; rfl
  have hE : E.take (k + 1) = E.take k ++ [E[k]?.getD 0] := by
    rw [List.take_succ_eq_append_getElem (by omega), List.getElem?_eq_getElem (by omega)]; rfl
  unfold fill
  rw [hP, hE, pairs_append _ _ _ _ (by simp; omega)]
  rw [List.set_append_right _ _ (by omega), hl, Nat.sub_self, List.set_append_right _ _ (by omega), hl, Nat.add_sub_cancel_left, List.append_assoc]
  congr 1
  have hd : Z.drop (k * 2) = Z[k * 2]'(by omega) :: Z[k * 2 + 1]'(by omega) :: Z.drop ((k + 1) * 2) := by
    rw [List.drop_eq_getElem_cons (by omega), List.drop_eq_getElem_cons (by omega), show (k + 1) * 2 = k * 2 + 1 + 1 from by omega]
  rw [hd]
  simp [pairs]
end Go.Proofs.Qxb6613719aDoor
