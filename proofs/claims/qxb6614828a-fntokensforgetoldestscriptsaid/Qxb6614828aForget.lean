import Derived.Test.Qxb6614828aFree
import Derived.RegionTactic
import Derived.BigRegion
namespace Go.Proofs.Qxb6614828a
open Go.RowKit
set_option linter.unusedVariables false
theorem heap_drew (w : World) : w.drew.heap = w.heap := rfl
theorem Has.drew {w : World} {g : Nat} {e : TypeId} {L : List Value} (h : Has w g e L) : Has w.drew g e L := ⟨h.blk⟩
theorem below_drew {B : Nat} {a w : World} (h : Below B a w) : Below B a w.drew := ⟨h.os, h.tape, h.output, h.size, h.block⟩
theorem Tok.popped {w : World} {b t e0 n m : Nat} {L : Nat → ByteArray × Int × Int} {K : List UInt8 → Option Nat} {Q : List Nat} {fg : Int} (i : Nat) (T : Tok w b t e0 n L m K (i :: Q) fg) (W : World)
    (hW : Has W (e0 + i) 59 [.string (L i).1, .int .u64 (L i).2.1, .int .u64 (L i).2.2, .bool false, .pointer none, .pointer none])
    (hT : Has W t 57 [.map (some b), ptr e0 Q.head?, ptr e0 Q.getLast?, .int .i64 (Q.length : Int), .int .u64 fg])
    (hO : ∀ j, j < m → j ≠ i → Has W (e0 + j) 59 (if some j = Q.head? then (entC e0 (i :: Q) j (L j)).set 4 (.pointer none) else entC e0 (i :: Q) j (L j)))
    (hM : W.heap[b]? = w.heap[b]?) : Tok W b t e0 n L m K Q fg := by
  have hn := List.nodup_cons.1 T.nodup
  refine ⟨T.map.keep hM, hT, ?_, T.bt, T.KL, hn.2, fun j hj => T.QK j (List.mem_cons_of_mem _ hj)⟩
  intro j hj
  by_cases hji : j = i
  · subst hji
    have e : entC e0 Q j (L j) = [.string (L j).1, .int .u64 (L j).2.1, .int .u64 (L j).2.2, .bool false, .pointer none, .pointer none] := by
      unfold entC
      rw [older_not none Q j hn.1, newer_not Q j hn.1]
      simp [ptr, hn.1]
    rw [e]; exact hW
  · have h := hO j hj hji
    have e : entC e0 Q j (L j) = (if some j = Q.head? then (entC e0 (i :: Q) j (L j)).set 4 (.pointer none) else entC e0 (i :: Q) j (L j)) := by
      unfold entC
      rw [older_tail i Q j T.nodup, newer_tail i Q j T.nodup, if_neg hji, if_neg hji]
      by_cases hl : some j = Q.head?
      · simp [hl, hji, ptr]
      · simp [hl, hji]
    rw [e]; exact h
set_option maxHeartbeats 2000000 in
theorem unlink_any (w : World) (b t e0 n m : Nat) (L : Nat → ByteArray × Int × Int) (K : List UInt8 → Option Nat) (i : Nat) (Q : List Nat) (fg : Int) (hm : m ≤ 100000)
    (T : Tok w b t e0 n L m K (i :: Q) fg) (hbt : b < t) :
    Calls Try.prog 35 #[.pointer (some ⟨t, 0, none⟩), .pointer (some ⟨e0 + i, 0, none⟩)] w fun e w' => e = .returned (.tuple #[]) ∧ Tok w' b t e0 n L m K Q fg ∧ w'.heap.size = w.heap.size ∧ Below b w w' := by
  have hi := T.QK i (by simp)
  have hbt2 := T.bt
  have E := T.ent i hi.1
  have c3 := E.cell 3 _ rfl
  have c4 := E.cell 4 _ rfl
  have c5 := E.cell 5 _ rfl
  simp only [older, newer, if_true, ptr, Option.map_none] at c4 c5
  simp only [List.mem_cons, true_or, decide_true] at c3
  have f3 := E.free 3
  have f4 := E.free 4
  have f5 := E.free 5
  have t1 := T.tok.cell 1 _ rfl
  have t2 := T.tok.cell 2 _ rfl
  have t3 := T.tok.cell 3 _ rfl
  obtain ⟨v1, hv1⟩ : ∃ v, v = ptr e0 (i :: Q).head? := ⟨_, rfl⟩
  rw [← hv1] at t1
  clear hv1
  obtain ⟨v2, hv2⟩ : ∃ v, v = ptr e0 (i :: Q).getLast? := ⟨_, rfl⟩
  rw [← hv2] at t2
  clear hv2
  simp only [List.length_cons] at t3
  have k1 := T.tok.free 1
  have k2 := T.tok.free 2
  have k3 := T.tok.free 3
  have hql := T.qlen
  simp only [List.length_cons] at hql
  obtain ⟨q, hq⟩ : ∃ q, q = e0 + i := ⟨_, rfl⟩
  rw [← hq] at c3 c4 c5 f3 f4 f5 ⊢
  have hqt : q ≠ t := by omega
  have htq : t ≠ q := by omega
  have HQ : Hid (q = e0 + i) := hq
  have HT : Hid (Tok w b t e0 n L m K (i :: Q) fg) := T
  cases hl : Q with
  | nil =>
    subst hl
    simp only [List.head?_nil, Option.map_none] at c5
    clear T hq E
    simp only [List.length_nil] at t3
    go_enter Try.func35, Try.ntmps35
    go_wp2_with fail
    go_end0
    have T := HT.out
    have hq := HQ.out
    have E := T.ent i hi.1
    rw [← hq] at E
    refine ⟨rfl, Tok.popped i T _ ?_ ?_ ?_ ?_, by simp, ?_⟩
    · rw [← hq]
      exact ((((((E.other _ _ hqt).other _ _ hqt).store 3 _).store 4 _).store 5 _).other _ _ hqt)
    · exact ((((((T.tok.store 1 _).store 2 _).other _ _ htq).other _ _ htq).other _ _ htq).store 3 _)
    · intro j hj hji
      have hjt : e0 + j ≠ t := by omega
      have hjq : e0 + j ≠ q := by omega
      rw [if_neg (by simp)]
      exact ((((((T.ent j hj).other _ _ hjt).other _ _ hjt).other _ _ hjq).other _ _ hjq).other _ _ hjq).other _ _ hjt
    · have h1 : b ≠ q := by omega
      exact (heap_setCell_other _ _ _ _ hbt2.2.2).trans ((heap_setCell_other _ _ _ _ h1).trans ((heap_setCell_other _ _ _ _ h1).trans ((heap_setCell_other _ _ _ _ h1).trans ((heap_setCell_other _ _ _ _ hbt2.2.2).trans (heap_setCell_other _ _ _ _ hbt2.2.2)))))
    · have h1 : b ≤ q := by omega
      have h2 : b ≤ t := by omega
      exact below_set (below_set (below_set (below_set (below_set (below_set (Below.refl b w) _ _ h2) _ _ h2) _ _ h1) _ _ h1) _ _ h1) _ _ h2
  | cons l Q2 =>
    subst hl
    simp only [List.head?_cons, Option.map_some] at c5
    simp only [List.length_cons] at t3 hql
    have hlm := T.QK l (by simp)
    obtain ⟨r, hr⟩ : ∃ r, r = e0 + l := ⟨_, rfl⟩
    have g4 := (T.ent l hlm.1).free 4
    have d4 := (T.ent l hlm.1).cell 4 _ rfl
    obtain ⟨v6, hv6⟩ : ∃ v, v = ptr e0 (older none (i :: l :: Q2) l) := ⟨_, rfl⟩
    rw [← hv6] at d4
    clear hv6
    rw [← hr] at c5 g4 d4
    have hli : l ≠ i := fun e => (List.nodup_cons.1 T.nodup).1 (by rw [e]; simp)
    have hrt : r ≠ t := by omega
    have htr : t ≠ r := by omega
    have hrq : r ≠ q := by omega
    have hqr : q ≠ r := by omega
    have HR : Hid (r = e0 + l) := hr
    have HI : Hid (i ≠ l) := fun e => hli e.symm
    clear T hq hr E hli
    go_enter Try.func35, Try.ntmps35
    go_wp2_with fail
    go_region
    go_wp2_with fail
    go_end0
    have T := HT.out
    have hq := HQ.out
    have hr := HR.out
    have E := T.ent i hi.1
    rw [← hq] at E
    refine ⟨rfl, Tok.popped i T _ ?_ ?_ ?_ ?_, by simp, ?_⟩
    · rw [← hq]
      exact Has.drew ((((((E.other _ _ hqt).other _ _ hqr).store 3 _).store 4 _).store 5 _).other _ _ hqt)
    · refine Has.drew (Has.eqL ((((((T.tok.store 1 (.pointer (some ⟨r, 0, none⟩))).other ⟨r, 4, none⟩ (.pointer none) htr).other ⟨q, 3, none⟩ (.bool false) htq).other ⟨q, 4, none⟩ (.pointer none) htq).other ⟨q, 5, none⟩ (.pointer none) htq).store 3 (.int .i64 ((Q2.length : Int) + 1))) ?_)
      simp [ptr, hr]
    · intro j hj hji
      have hjt : e0 + j ≠ t := by omega
      have hjq : e0 + j ≠ q := by omega
      by_cases hjl : j = l
      · subst hjl
        have E2 := T.ent j hj
        rw [← hr] at E2 hjt hjq ⊢
        rw [if_pos (by simp)]
        exact Has.drew ((((((E2.other _ _ hjt).store 4 _).other _ _ hjq).other _ _ hjq).other _ _ hjq).other _ _ hjt)
      · rw [if_neg (by simp [hjl])]
        have hjr : e0 + j ≠ r := by omega
        exact Has.drew (((((((T.ent j hj).other _ _ hjt).other _ _ hjr).other _ _ hjq).other _ _ hjq).other _ _ hjq).other _ _ hjt)
    · have h1 : b ≠ q := by omega
      have h3 : b ≠ r := by omega
      rw [heap_drew]
      rw [heap_setCell_other _ ⟨t, 3, none⟩ b _ hbt2.2.2, heap_setCell_other _ ⟨q, 5, none⟩ b _ h1, heap_setCell_other _ ⟨q, 4, none⟩ b _ h1, heap_setCell_other _ ⟨q, 3, none⟩ b _ h1, heap_setCell_other _ ⟨r, 4, none⟩ b _ h3, heap_setCell_other _ ⟨t, 1, none⟩ b _ hbt2.2.2]
    · have h1 : b ≤ q := by omega
      have h2 : b ≤ t := by omega
      have h3 : b ≤ r := by omega
      exact below_drew (below_set (below_set (below_set (below_set (below_set (below_set (Below.refl b w) _ _ h2) _ _ h3) _ _ h1) _ _ h1) _ _ h1) _ _ h2)
end Go.Proofs.Qxb6614828a
