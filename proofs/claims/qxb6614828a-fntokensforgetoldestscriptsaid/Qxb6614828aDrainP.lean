import Derived.Test.Qxb6614828aCanon
import Derived.Deep.DeepCutAuto
namespace Go.Proofs.Qxb6614828a
open Go.RowKit
set_option linter.unusedVariables false
def seqTail : Nat → Code → Code
  | 0, c => c
  | n + 1, .seq _ b => seqTail n b
  | _ + 1, c => c
def freedC (Q : List Nat) (n : Nat) : List Value := Q.map (fun i : Nat => Value.int .i64 (i : Int)) ++ List.replicate (n - Q.length) (.int .i64 0)
theorem freedC_at (Q : List Nat) (n p : Nat) (h : p < Q.length) : (freedC Q n)[p]? = some (.int .i64 ((Q[p]?.getD 0 : Nat) : Int)) := by
  unfold freedC
  rw [List.getElem?_append_left (by simpa using h), List.getElem?_map, List.getElem?_eq_getElem h]
  rfl
theorem freedC_set (Q : List Nat) (n i : Nat) (h : Q.length < n) : (freedC Q n).set Q.length (.int .i64 (i : Int)) = freedC (Q ++ [i]) n := by
  unfold freedC
  have hl : (Q.map (fun i : Nat => Value.int .i64 (i : Int))).length = Q.length := by simp
  rw [List.set_append_right _ _ (by omega), hl, Nat.sub_self, List.map_append, List.append_assoc, List.length_append]
  congr 1
  rw [show n - Q.length = (n - (Q.length + 1)) + 1 from by omega, List.replicate_succ]
  rfl
def boolC (Q : List Nat) (n : Nat) : List Value := (List.range n).map fun i => .bool (decide (i ∈ Q))
theorem boolC_at (Q : List Nat) (n i : Nat) (h : i < n) : (boolC Q n)[i]? = some (.bool (decide (i ∈ Q))) := by unfold boolC; simp [h]
theorem boolC_nil (n : Nat) : boolC [] n = List.replicate n (.bool false) := by
  unfold boolC
  apply List.ext_getElem?
  intro j
  rcases Nat.lt_or_ge j n with h | h
  · simp [h]
  · simp [Nat.not_lt.2 h]
theorem boolC_set (Q : List Nat) (n i : Nat) (h : i < n) : (boolC Q n).set i (.bool true) = boolC (Q ++ [i]) n := by
  apply List.ext_getElem?
  intro j
  rw [List.getElem?_set]
  rcases Nat.lt_or_ge j n with hj | hj
  · rw [boolC_at _ n j hj, boolC_at _ n j hj]
    by_cases hk : i = j
    · subst hk; simp [boolC, h]
    · rw [if_neg hk]
      have : ¬ j = i := fun e => hk e.symm
      simp [this]
  · have e1 : ∀ Q', (boolC Q' n)[j]? = none := fun Q' => by rw [List.getElem?_eq_none]; simp [boolC]; omega
    rw [e1, e1]
    by_cases hk : i = j
    · omega
    · simp [hk]
/-- What the map holds behind the first m stores. -/
def putsK (L : Nat → ByteArray × Int × Int) : Nat → List UInt8 → Option Nat
  | 0 => fun _ => none
  | m + 1 => put (putsK L m) (kb (L m).1) m
theorem putsK_canon (L : Nat → ByteArray × Int × Int) (i : Nat) : ∀ m, i < m → putsK L m (kb (L i).1) = some (canonTo L i m)
  | 0, h => by omega
  | m + 1, h => by
    unfold putsK put canonTo
    by_cases hk : kb (L i).1 = kb (L m).1
    · rw [if_pos hk]
      by_cases him : i < m
      · rw [if_pos ⟨him, (kb_inj hk).symm⟩]
      · obtain rfl : i = m := by omega
        rw [if_neg (by omega), canonTo_start L i i (by omega)]
    · have him : i < m := by
        rcases Nat.lt_or_ge i m with h' | h'
        · exact h'
        · obtain rfl : i = m := by omega
          exact absurd rfl hk
      rw [if_neg hk, if_neg (fun h => hk (by rw [h.2])), putsK_canon L i m him]
theorem freeQ_canon (L : Nat → ByteArray × Int × Int) (n i : Nat) (h : i < n) (Q : List Nat) : freeQ (putsK L n) Q (kb (L i).1) = if canonTo L i n ∈ Q then Q else Q ++ [canonTo L i n] := by
  unfold freeQ; rw [putsK_canon L i n h]
theorem Tok.kept {w w' : World} {b t e0 n m : Nat} {L : Nat → ByteArray × Int × Int} {K : List UInt8 → Option Nat} {Q : List Nat} {fg : Int} (T : Tok w b t e0 n L m K Q fg) (hbt : b < t)
    (h : ∀ k, b ≤ k → k < w.heap.size → w'.heap[k]? = w.heap[k]?) : Tok w' b t e0 n L m K Q fg :=
  ⟨T.map.keep (h b (Nat.le_refl _) T.map.lt), ⟨(h t (by omega) T.tok.lt).trans T.tok.blk⟩, fun i hi => ⟨(h _ (by have := T.bt; omega) (T.ent i hi).lt).trans (T.ent i hi).blk⟩, T.bt, T.KL, T.nodup, T.QK⟩
end Go.Proofs.Qxb6614828a
