import Derived.Test.Qxb6614828aScriptP
namespace Go.Proofs.Qxb6614828a
open Go.RowKit
set_option linter.unusedVariables false
variable {w wr : World} {g0 g1 g2 b t e0 nn n : Nat} {L : Nat → ByteArray × Int × Int} {A : List Nat} {h : Nat} {K : List UInt8 → Option Nat} {fg : Int}
theorem Inv5.room (I : Inv5 w wr g0 g1 g2 b t e0 nn n L A h K fg) (ci : Nat) (hci : ci < n) (hm : ci ∉ A) : A.length < n := by
  have h := nodup_le n (A ++ [ci]) (by
    rw [List.nodup_append]
    exact ⟨I.nodA, by simp, fun a ha c hc e => by
      simp at hc
      subst hc
      subst e
      exact hm ha⟩) (fun x hx => by
    rw [List.mem_append] at hx
    rcases hx with hx | hx
    · exact (I.hA x hx).1
    · simp at hx; omega)
  simp at h
  omega
theorem push5 (J : Inv5 w wr g0 g1 g2 b t e0 nn n L A h K fg) (hg : w.heap.size ≤ g0 ∧ g0 < g1 ∧ g1 < g2 ∧ g2 < b ∧ b < t) (ci : Nat) (hci : ci < n) (hm : ci ∉ A) :
    ((wr.setCell ⟨g1, ci, none⟩ (.int .i64 1)).alloc (.cells #[.int .i64 (ci : Int)] 3)).cell? ⟨g2, A.length, none⟩ = some (.int .i64 0) ∧ ((wr.setCell ⟨g1, ci, none⟩ (.int .i64 1)).alloc (.cells #[.int .i64 (ci : Int)] 3)).frozen? ⟨g2, A.length, none⟩ = false ∧
    Has (((wr.setCell ⟨g1, ci, none⟩ (.int .i64 1)).alloc (.cells #[.int .i64 (ci : Int)] 3)).setCell ⟨g2, A.length, none⟩ (.int .i64 (ci : Int))) g0 3 (canonC L n n) ∧
    Has (((wr.setCell ⟨g1, ci, none⟩ (.int .i64 1)).alloc (.cells #[.int .i64 (ci : Int)] 3)).setCell ⟨g2, A.length, none⟩ (.int .i64 (ci : Int))) g1 3 (stateC (A ++ [ci]) h n) ∧
    Has (((wr.setCell ⟨g1, ci, none⟩ (.int .i64 1)).alloc (.cells #[.int .i64 (ci : Int)] 3)).setCell ⟨g2, A.length, none⟩ (.int .i64 (ci : Int))) g2 3 (freedC (A ++ [ci]) n) ∧
    Tok (((wr.setCell ⟨g1, ci, none⟩ (.int .i64 1)).alloc (.cells #[.int .i64 (ci : Int)] 3)).setCell ⟨g2, A.length, none⟩ (.int .i64 (ci : Int))) b t e0 nn L n K (A.drop h) fg ∧
    Below w.heap.size w (((wr.setCell ⟨g1, ci, none⟩ (.int .i64 1)).alloc (.cells #[.int .i64 (ci : Int)] 3)).setCell ⟨g2, A.length, none⟩ (.int .i64 (ci : Int))) := by
  have hql := J.room ci hci hm
  have hst := stOf_push A h ci J.hh hm
  have H0 := (J.h0.other ⟨g1, ci, none⟩ (.int .i64 1) (show g0 ≠ g1 by omega)).alloc (.cells #[.int .i64 (ci : Int)] 3)
  have H1 := (J.h1.store ci (.int .i64 1)).alloc (.cells #[.int .i64 (ci : Int)] 3)
  have H2 := (J.h2.other ⟨g1, ci, none⟩ (.int .i64 1) (show g2 ≠ g1 by omega)).alloc (.cells #[.int .i64 (ci : Int)] 3)
  have hsz : w.heap.size ≤ wr.heap.size := J.B.size
  refine ⟨H2.cell _ _ (freedC_room A n hql), H2.free _, H0.other _ _ (show g0 ≠ g2 by omega), ?_, ?_, ?_, ?_⟩
  · rw [← stateC_set A (A ++ [ci]) h h n ci hci hst.2, hst.1]; exact H1.other _ _ (show g1 ≠ g2 by omega)
  · rw [← freedC_set A n ci hql]; exact H2.store _ _
  · refine J.T.kept hg.2.2.2.2 fun k hk hk2 => ?_
    rw [heap_setCell_other _ _ _ _ (show k ≠ g2 by omega), heap_alloc_old _ _ (by simpa using hk2), heap_setCell_other _ _ _ _ (show k ≠ g1 by omega)]
  · refine below_set ?_ _ _ (show w.heap.size ≤ g2 by omega)
    have B1 := below_set J.B ⟨g1, ci, none⟩ (.int .i64 1) (show w.heap.size ≤ g1 by omega)
    exact B1.alloc (by simpa using hsz) _
/-- Behind 'free' of a name whose canonical entry was pushed. -/
theorem pushed5 (J : Inv5 w wr g0 g1 g2 b t e0 nn n L A h K fg) (i ci : Nat) (hi : i < n) (hc : ci = canonTo L i n) (hci : ci < n) (hm : ci ∉ A) {w1 : World}
    (j0 : Has w1 g0 3 (canonC L n n)) (j1 : Has w1 g1 3 (stateC (A ++ [ci]) h n)) (j2 : Has w1 g2 3 (freedC (A ++ [ci]) n)) (jB : Below w.heap.size w w1)
    (T1 : Tok w1 b t e0 nn L n K (freeQ K (A.drop h) (kb (L i).1)) fg) : Inv5 w w1 g0 g1 g2 b t e0 nn n L (A ++ [ci]) h K fg := by
  have ht : (A ++ [ci]).take h = A.take h := List.take_append_of_le_length J.hh
  have hd : (A ++ [ci]).drop h = A.drop h ++ [ci] := List.drop_append_of_le_length J.hh
  have hK : K (kb (L i).1) = some ci := by
    have := J.KK i hi
    rw [← hc, if_neg (fun e => hm (List.mem_of_mem_take e))] at this
    exact this
  have hf : freeQ K (A.drop h) (kb (L i).1) = (A ++ [ci]).drop h := by
    unfold freeQ
    rw [hK, hd]
    exact if_neg (fun e => hm (List.mem_of_mem_drop e))
  rw [hf] at T1
  refine ⟨j0, j1, j2, T1, fun x hx => by rw [ht]; exact J.KK x hx, ?_, ?_, by simp; have := J.hh; omega, jB⟩
  · rw [List.nodup_append]
    exact ⟨J.nodA, by simp, fun a ha c hc e => by
      simp at hc
      subst hc
      subst e
      exact hm ha⟩
  · intro x hx
    rw [List.mem_append] at hx
    rcases hx with hx | hx
    · exact J.hA x hx
    · simp at hx
      subst hx
      exact ⟨hci, by rw [hc]; exact canon_idem L n i hi (hc ▸ hci)⟩
/-- 'free' of a name whose canonical entry was pushed before: nothing turns. -/
theorem stays5 (J : Inv5 w wr g0 g1 g2 b t e0 nn n L A h K fg) (i : Nat) (hi : i < n) (hm : canonTo L i n ∈ A) : freeQ K (A.drop h) (kb (L i).1) = A.drop h := by
  unfold freeQ
  rw [J.KK i hi]
  by_cases ht : canonTo L i n ∈ A.take h
  · rw [if_pos ht]
  · rw [if_neg ht]
    have : canonTo L i n ∈ A.drop h := by
      have h1 := hm
      rw [← List.take_append_drop h A, List.mem_append] at h1
      rcases h1 with h1 | h1
      · exact absurd h1 ht
      · exact h1
    exact if_pos this
theorem popped5 (J : Inv5 w wr g0 g1 g2 b t e0 nn n L A h K fg) (c : Nat) (hA : A[h]? = some c) {w1 : World} {fg' : Int}
    (j0 : Has w1 g0 3 (canonC L n n)) (j1 : Has w1 g1 3 (stateC A (h + 1) n)) (j2 : Has w1 g2 3 (freedC A n)) (jB : Below w.heap.size w w1)
    (T1 : Tok w1 b t e0 nn L n (del K (kb (L c).1)) (A.drop (h + 1)) fg') : Inv5 w w1 g0 g1 g2 b t e0 nn n L A (h + 1) (del K (kb (L c).1)) fg' := by
  have hcA := J.hA c (List.mem_of_getElem? hA)
  refine ⟨j0, j1, j2, T1, ?_, J.nodA, J.hA, ?_, jB⟩
  · intro i hi
    unfold del
    rw [take_snoc A h c hA]
    by_cases hk : kb (L i).1 = kb (L c).1
    · rw [if_pos hk, canon_same L n i c hi hcA.1 (kb_inj hk), hcA.2, if_pos (by simp)]
    · rw [if_neg hk, J.KK i hi]
      have hne : canonTo L i n ≠ c := fun e => hk (by rw [← e, canon_name])
      by_cases ht : canonTo L i n ∈ A.take h
      · rw [if_pos ht, if_pos (by simp [ht])]
      · rw [if_neg ht, if_neg (by simp [ht, hne])]
  · rcases Nat.lt_or_ge h A.length with h' | h'
    · omega
    · rw [List.getElem?_eq_none h'] at hA; cases hA
end Go.Proofs.Qxb6614828a
