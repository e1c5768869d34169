import Derived.Test.Qxb6614828aMem
namespace Go.Proofs.Qxb6614828a
set_option linter.unusedVariables false
/-- The one ahead of i in the queue (p: the one ahead of the whole list). -/
def older : Option Nat → List Nat → Nat → Option Nat
  | _, [], _ => none
  | p, x :: r, i => if i = x then p else older (some x) r i
/-- The one behind i in the queue. -/
def newer : List Nat → Nat → Option Nat
  | [], _ => none
  | x :: r, i => if i = x then r.head? else newer r i
theorem older_not (p : Option Nat) (Q : List Nat) (i : Nat) (h : i ∉ Q) : older p Q i = none := by
  induction Q generalizing p with
  | nil => rfl
  | cons x r ih =>
    simp at h
    simp [older, h.1, ih (some x) h.2]
theorem newer_not (Q : List Nat) (i : Nat) (h : i ∉ Q) : newer Q i = none := by
  induction Q with
  | nil => rfl
  | cons x r ih =>
    simp at h
    simp [newer, h.1, ih h.2]
theorem older_snoc (p : Option Nat) (Q : List Nat) (i j : Nat) (h : i ∉ Q) (hp : Q = [] → p = none) : older p (Q ++ [i]) j = if j = i then Q.getLast? else older p Q j := by
  induction Q generalizing p with
  | nil => rw [hp rfl]; simp [older]
  | cons x r ih =>
    simp at h
    by_cases hj : j = x
    · simp [older, hj]
      intro e; exact absurd e.symm h.1
    · simp only [List.cons_append, older, hj, if_false]
      cases r with
      | nil => simp [older]
      | cons y r' =>
        rw [ih (some x) h.2 (by simp)]
        simp [List.getLast?_cons_cons]
theorem newer_snoc (Q : List Nat) (i j : Nat) (h : i ∉ Q) (hn : Q.Nodup) : newer (Q ++ [i]) j = if j = i then none else if some j = Q.getLast? then some i else newer Q j := by
  induction Q with
  | nil => by_cases hj : j = i <;> simp [newer, hj]
  | cons x r ih =>
    simp at h
    rw [List.nodup_cons] at hn
    by_cases hj : j = x
    · have h1 : ¬ j = i := fun e => h.1 (e.symm.trans hj)
      subst hj
      rw [if_neg h1]
      cases r with
      | nil => simp [newer]
      | cons y r' =>
        have h2 : ¬ some j = (j :: y :: r').getLast? := by
          rw [List.getLast?_cons_cons]
          intro e
          exact hn.1 (List.mem_of_getLast? e.symm)
        rw [if_neg h2]
        simp [newer]
    · simp only [List.cons_append, newer, hj, if_false]
      rw [ih h.2 hn.2]
      cases r with
      | nil => simp [newer, hj]
      | cons y r' => rw [List.getLast?_cons_cons]
theorem older_tail (i : Nat) (Q : List Nat) (j : Nat) (hn : (i :: Q).Nodup) : older none Q j = if some j = Q.head? then none else if j = i then none else older none (i :: Q) j := by
  rw [List.nodup_cons] at hn
  cases Q with
  | nil => simp [older]
  | cons y r =>
    by_cases hy : j = y
    · subst hy; simp [older]
    · rw [if_neg (by simp [hy])]
      by_cases hi : j = i
      · subst hi
        rw [if_pos rfl, older_not _ _ _ hn.1]
      · rw [if_neg hi]
        simp [older, hy, hi]
theorem newer_tail (i : Nat) (Q : List Nat) (j : Nat) (hn : (i :: Q).Nodup) : newer Q j = if j = i then none else newer (i :: Q) j := by
  rw [List.nodup_cons] at hn
  by_cases hi : j = i
  · subst hi; rw [if_pos rfl, newer_not _ _ hn.1]
  · rw [if_neg hi]; simp [newer, hi]
theorem nodup_le : ∀ (n : Nat) (Q : List Nat), Q.Nodup → (∀ x ∈ Q, x < n) → Q.length ≤ n
  | 0, Q, _, h => by
    cases Q with
    | nil => simp
    | cons x r => have := h x (by simp); omega
  | n + 1, Q, hn, h => by
    by_cases hm : n ∈ Q
    · have h1 := nodup_le n (Q.erase n) (hn.erase n) (fun x hx => by
        have h2 := hn.mem_erase_iff.1 hx
        have := h x h2.2
        have := h2.1
        omega)
      rw [List.length_erase_of_mem hm] at h1
      omega
    · exact Nat.le_succ_of_le (nodup_le n Q hn (fun x hx => by
        have := h x hx
        have : x ≠ n := fun e => hm (e ▸ hx)
        omega))
end Go.Proofs.Qxb6614828a
