import Derived.Test.Qxb6613719aDoorHead
namespace Go.Proofs.Qxb6613719aDoor
set_option linter.unusedVariables false
theorem count_standA (M : List Int) (gen x0 x : Int) : countOf x (standA M gen x0) = if x0 = x ∧ ¬ M[x0.toNat]?.getD 0 = gen then 1 else 0 := by
  unfold standA
  by_cases h : M[x0.toNat]?.getD 0 = gen
  · rw [if_pos h, if_neg (by simp [h])]; rfl
  · rw [if_neg h]
    simp [countOf, h]
theorem set_getD (M : List Int) (i j : Nat) (g : Int) (hi : i < M.length) : (M.set i g)[j]?.getD 0 = if i = j then g else M[j]?.getD 0 := by
  rw [List.getElem?_set]
  by_cases h : i = j
  · subst h; simp [hi]
  · simp [h]
theorem count_adds (M : List Int) (gen y start : Int) (bc bf : Bool) (x : Nat) (hx : x < M.length) (hbc : bc = true → 0 ≤ y - 1 ∧ y - 1 < M.length) (hbf : bf = true → 0 ≤ start ∧ start < M.length) :
    countOf x (addsOf M gen y start bc bf) = if reachB bc bf y start x = true ∧ ¬ M[x]?.getD 0 = gen then 1 else 0 := by
  unfold addsOf reachB
  rw [countOf_append]
  cases bc <;> cases bf
  · simp [countOf]
  · obtain ⟨s0, s1⟩ := hbf rfl
    simp only [Bool.false_eq_true, if_false, if_true, Bool.false_and, Bool.false_or, Bool.true_and, beq_iff_eq]
    rw [count_standA]
    simp only [countOf, Nat.zero_add]
    by_cases h : start = x
    · have : start.toNat = x := by omega
      rw [this]; simp [h]
    · rw [if_neg (by simp [h]), if_neg (by intro hh; exact h hh.1.symm)]
  · obtain ⟨s0, s1⟩ := hbc rfl
    simp only [Bool.false_eq_true, if_false, if_true, Bool.false_and, Bool.or_false, Bool.true_and, beq_iff_eq]
    rw [count_standA]
    simp only [countOf, Nat.add_zero]
    by_cases h : y - 1 = x
    · have : (y - 1).toNat = x := by omega
      rw [this]; simp [h]
    · rw [if_neg (by simp [h]), if_neg (by intro hh; exact h hh.1.symm)]
  · obtain ⟨s0, s1⟩ := hbc rfl
    obtain ⟨t0, t1⟩ := hbf rfl
    simp only [if_true, Bool.true_and, Bool.or_eq_true, beq_iff_eq]
    rw [count_standA, count_standA, set_getD M _ _ gen (by omega)]
    by_cases h1 : y - 1 = x
    · have e1 : (y - 1).toNat = x := by omega
      rw [e1]
      by_cases h2 : start = x
      · have e2 : start.toNat = x := by omega
        rw [e2]; simp [h1, h2]
      · simp [h1, h2]
    · by_cases h2 : start = x
      · have e2 : start.toNat = x := by omega
        have e4 : ¬ y.toNat - 1 = x := by omega
        rw [e2]; simp [h1, h2, e4]
      · rw [if_neg (by simp [h1]), if_neg (by simp [h2]), if_neg (by intro hh; rcases hh.1 with h | h <;> omega)]
theorem marks_at (M : List Int) (gen y start : Int) (bc bf : Bool) (x : Nat) (hx : x < M.length) (hbc : bc = true → 0 ≤ y - 1 ∧ y - 1 < M.length) (hbf : bf = true → 0 ≤ start ∧ start < M.length) :
    (marksOf M gen y start bc bf)[x]?.getD 0 = if reachB bc bf y start x = true then gen else M[x]?.getD 0 := by
  unfold marksOf reachB
  cases bc <;> cases bf
  · simp
  · obtain ⟨s0, s1⟩ := hbf rfl
    simp only [Bool.false_eq_true, if_false, if_true, Bool.false_and, Bool.false_or, Bool.true_and, beq_iff_eq]
    rw [set_getD _ _ _ _ (by omega)]
    by_cases h : start = x
    · rw [if_pos (by omega), if_pos h.symm]
    · rw [if_neg (by omega), if_neg (fun hh => h hh.symm)]
  · obtain ⟨s0, s1⟩ := hbc rfl
    simp only [Bool.false_eq_true, if_false, if_true, Bool.false_and, Bool.or_false, Bool.true_and, beq_iff_eq]
    rw [set_getD _ _ _ _ (by omega)]
    by_cases h : y - 1 = x
    · rw [if_pos (by omega), if_pos h.symm]
    · rw [if_neg (by omega), if_neg (fun hh => h hh.symm)]
  · obtain ⟨s0, s1⟩ := hbc rfl
    obtain ⟨t0, t1⟩ := hbf rfl
    simp only [if_true, Bool.true_and, Bool.or_eq_true, beq_iff_eq]
    rw [set_getD _ _ _ _ (by simp; omega), set_getD _ _ _ _ (by omega)]
    by_cases h2 : start = x
    · rw [if_pos (by omega), if_pos (Or.inr h2.symm)]
    · rw [if_neg (by omega)]
      by_cases h1 : y - 1 = x
      · rw [if_pos (by omega), if_pos (Or.inl h1.symm)]
      · rw [if_neg (by omega), if_neg (by intro hh; rcases hh with h | h <;> omega)]
theorem marksOf_len (M : List Int) (gen y start : Int) (bc bf : Bool) : (marksOf M gen y start bc bf).length = M.length := by
  unfold marksOf; split <;> split <;> simp
theorem mem_standA {M : List Int} {gen x0 z : Int} (h : z ∈ standA M gen x0) : z = x0 := by
  unfold standA at h; split at h
  · simp at h
  · simpa using h
theorem adds_bd (M : List Int) (gen y start : Int) (bc bf : Bool) (hbc : bc = true → 0 ≤ y - 1 ∧ y - 1 < M.length) (hbf : bf = true → 0 ≤ start ∧ start < M.length) (z : Int) (hz : z ∈ addsOf M gen y start bc bf) : 0 ≤ z ∧ z < M.length := by
  unfold addsOf at hz
  rw [List.mem_append] at hz
  rcases hz with hz | hz
  · cases bc
    · simp at hz
    · have := mem_standA (by simpa using hz); have := hbc rfl; omega
  · cases bf
    · simp at hz
    · have := mem_standA (by simpa using hz); have := hbf rfl; omega
/-- What stands behind the old part of the two results. -/
theorem news (P E A : List Int) (en : Int) (m : Nat) (hPE : E.length = P.length) (hA : ∀ z ∈ A, 0 ≤ z ∧ z < (m : Int)) (j : Nat) (h0 : P.length ≤ j) (h1 : j < (P ++ A).length) :
    (E ++ List.replicate A.length en)[j]?.getD 0 = en ∧ 0 ≤ (P ++ A)[j]?.getD 0 ∧ (P ++ A)[j]?.getD 0 < m := by
  rw [List.length_append] at h1
  rw [List.getElem?_append_right (by omega), List.getElem?_append_right h0, List.getElem?_replicate, if_pos (by omega), List.getElem?_eq_getElem (by omega)]
  exact ⟨rfl, hA _ (List.getElem_mem _)⟩
theorem olds (P E A : List Int) (en : Int) (hPE : E.length = P.length) (j : Nat) (h0 : j < P.length) :
    (P ++ A)[j]?.getD 0 = P[j]?.getD 0 ∧ (E ++ List.replicate A.length en)[j]?.getD 0 = E[j]?.getD 0 := by
  rw [List.getElem?_append_left h0, List.getElem?_append_left (by omega)]
  exact ⟨rfl, rfl⟩
theorem bound_append (P A : List Int) (m : Nat) (hm : m ≤ 16384) (hP : ∀ j : Nat, -2147483648 ≤ P[j]?.getD 0 ∧ P[j]?.getD 0 ≤ 2147483647) (hA : ∀ z ∈ A, 0 ≤ z ∧ z < (m : Int)) (j : Nat) :
    -2147483648 ≤ (P ++ A)[j]?.getD 0 ∧ (P ++ A)[j]?.getD 0 ≤ 2147483647 := by
  rcases Nat.lt_or_ge j P.length with h | h
  · rw [List.getElem?_append_left h]; exact hP j
  · rw [List.getElem?_append_right h]
    rcases Nat.lt_or_ge (j - P.length) A.length with h2 | h2
    · rw [List.getElem?_eq_getElem h2]
      have := hA _ (List.getElem_mem h2)
      simp; omega
    · rw [List.getElem?_eq_none h2]; simp
end Go.Proofs.Qxb6613719aDoor
