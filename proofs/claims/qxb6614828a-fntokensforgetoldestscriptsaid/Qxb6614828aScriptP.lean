import Derived.Test.Qxb6614828aOpen
namespace Go.Proofs.Qxb6614828a
open Go.RowKit
set_option linter.unusedVariables false
theorem canon_name (L : Nat → ByteArray × Int × Int) (i : Nat) : ∀ m, (L (canonTo L i m)).1 = (L i).1
  | 0 => rfl
  | m + 1 => by
    unfold canonTo
    split
    · rename_i h; exact h.2
    · exact canon_name L i m
theorem canon_same (L : Nat → ByteArray × Int × Int) (n i j : Nat) (hi : i < n) (hj : j < n) (h : (L i).1 = (L j).1) : canonTo L i n = canonTo L j n := by
  have h1 := putsK_canon L i n hi
  have h2 := putsK_canon L j n hj
  rw [h, h2] at h1
  exact (Option.some.inj h1).symm
def stOf (A : List Nat) (h i : Nat) : Int := if i ∈ A.take h then 2 else if i ∈ A then 1 else 0
def stateC (A : List Nat) (h n : Nat) : List Value := (List.range n).map fun i => .int .i64 (stOf A h i)
theorem stateC_at (A : List Nat) (h n i : Nat) (hi : i < n) : (stateC A h n)[i]? = some (.int .i64 (stOf A h i)) := by unfold stateC; simp [hi]
theorem stateC_nil (n : Nat) : stateC [] 0 n = List.replicate n (.int .i64 0) := by
  unfold stateC stOf
  apply List.ext_getElem?
  intro j
  rcases Nat.lt_or_ge j n with h | h
  · simp [h]
  · simp [Nat.not_lt.2 h]
theorem stateC_set (A A' : List Nat) (h h' n i : Nat) (hi : i < n) (he : ∀ j, j ≠ i → stOf A h j = stOf A' h' j) : (stateC A h n).set i (.int .i64 (stOf A' h' i)) = stateC A' h' n := by
  apply List.ext_getElem?
  intro j
  rw [List.getElem?_set]
  rcases Nat.lt_or_ge j n with hj | hj
  · rw [stateC_at _ _ n j hj, stateC_at _ _ n j hj]
    by_cases hk : i = j
    · subst hk; simp [stateC, hi]
    · rw [if_neg hk, he j (fun e => hk e.symm)]
  · have e1 : ∀ Q' q', (stateC Q' q' n)[j]? = none := fun Q' q' => by rw [List.getElem?_eq_none]; simp [stateC]; omega
    rw [e1, e1]
    by_cases hk : i = j
    · omega
    · simp [hk]
theorem stOf_push (A : List Nat) (h c : Nat) (hh : h ≤ A.length) (hc : c ∉ A) : stOf (A ++ [c]) h c = 1 ∧ ∀ j, j ≠ c → stOf A h j = stOf (A ++ [c]) h j := by
  have ht : (A ++ [c]).take h = A.take h := List.take_append_of_le_length hh
  refine ⟨?_, fun j hj => ?_⟩
  · unfold stOf
    rw [ht, if_neg (fun e => hc (List.mem_of_mem_take e))]
    simp
  · unfold stOf
    rw [ht]
    simp [hj]
theorem take_snoc (A : List Nat) (h c : Nat) (hA : A[h]? = some c) : A.take (h + 1) = A.take h ++ [c] := by
  rw [List.take_add_one, hA]; rfl
theorem stOf_pop (A : List Nat) (h c : Nat) (hA : A[h]? = some c) : stOf A (h + 1) c = 2 ∧ ∀ j, j ≠ c → stOf A h j = stOf A (h + 1) j := by
  refine ⟨?_, fun j hj => ?_⟩
  · unfold stOf
    rw [take_snoc A h c hA]
    simp
  · unfold stOf
    rw [take_snoc A h c hA]
    simp [hj]
structure Inv5 (w W : World) (g0 g1 g2 b t e0 nn n : Nat) (L : Nat → ByteArray × Int × Int) (A : List Nat) (h : Nat) (K : List UInt8 → Option Nat) (fg : Int) : Prop where
  h0 : Has W g0 3 (canonC L n n)
  h1 : Has W g1 3 (stateC A h n)
  h2 : Has W g2 3 (freedC A n)
  T : Tok W b t e0 nn L n K (A.drop h) fg
  KK : ∀ i, i < n → K (kb (L i).1) = if canonTo L i n ∈ A.take h then none else some (canonTo L i n)
  nodA : A.Nodup
  hA : ∀ x, x ∈ A → x < n ∧ canonTo L x n = x
  hh : h ≤ A.length
  B : Below w.heap.size w W
theorem Inv5.canon_lt {w W : World} {g0 g1 g2 b t e0 nn n : Nat} {L : Nat → ByteArray × Int × Int} {A : List Nat} {h : Nat} {K : List UInt8 → Option Nat} {fg : Int} (I : Inv5 w W g0 g1 g2 b t e0 nn n L A h K fg) (i : Nat) (hi : i < n) : canonTo L i n < n := by
  by_cases hm : canonTo L i n ∈ A
  · exact (I.hA _ hm).1
  · have := I.KK i hi
    rw [if_neg (fun e => hm (List.mem_of_mem_take e))] at this
    exact (I.T.KL _ _ this).1
theorem canon_idem (L : Nat → ByteArray × Int × Int) (n i : Nat) (hi : i < n) (hc : canonTo L i n < n) : canonTo L (canonTo L i n) n = canonTo L i n :=
  canon_same L n _ i hc hi (canon_name L i n)
end Go.Proofs.Qxb6614828a
