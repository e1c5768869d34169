import Derived.Test.Qxb6614828aTok
namespace Go.Proofs.Qxb6614828a
open Go.RowKit
set_option linter.unusedVariables false
def freeQ (K : List UInt8 → Option Nat) (Q : List Nat) (k : List UInt8) : List Nat := match K k with
  | none => Q
  | some i => if i ∈ Q then Q else Q ++ [i]
theorem frees_any (w : World) (b t e0 n m : Nat) (L : Nat → ByteArray × Int × Int) (K : List UInt8 → Option Nat) (Q : List Nat) (fg : Int) (T : Tok w b t e0 n L m K Q fg) :
    Calls Try.prog 19 #[.pointer (some ⟨t, 0, none⟩)] w fun e w' => e = .returned (.int .i64 (Q.length : Int)) ∧ w' = w := by
  have c3 := T.tok.cell 3 _ rfl
  clear T
  go_enter Try.func19, Try.ntmps19
  go_wp2
  go_ret
  exact ⟨rfl, rfl⟩
theorem forgotten_any (w : World) (b t e0 n m : Nat) (L : Nat → ByteArray × Int × Int) (K : List UInt8 → Option Nat) (Q : List Nat) (fg : Int) (T : Tok w b t e0 n L m K Q fg) :
    Calls Try.prog 20 #[.pointer (some ⟨t, 0, none⟩)] w fun e w' => e = .returned (.int .u64 fg) ∧ w' = w := by
  have c4 := T.tok.cell 4 _ rfl
  clear T
  go_enter Try.func20, Try.ntmps20
  go_wp2
  go_ret
  exact ⟨rfl, rfl⟩
/-- A world that is w but for cells at block b or behind it. -/
theorem below_set {B : Nat} {w w' : World} (h : Below B w w') (a : Addr) (v : Value) (hB : B ≤ a.block) : Below B w (w'.setCell a v) := h.setCell hB v
theorem Tok.pushed {w : World} {b t e0 n m : Nat} {L : Nat → ByteArray × Int × Int} {K : List UInt8 → Option Nat} {Q : List Nat} {fg : Int} (T : Tok w b t e0 n L m K Q fg) (i : Nat) (hi : i < m) (hK : K (kb (L i).1) = some i) (hQ : i ∉ Q) (W : World)
    (hW : Has W (e0 + i) 59 [.string (L i).1, .int .u64 (L i).2.1, .int .u64 (L i).2.2, .bool true, ptr e0 Q.getLast?, .pointer none])
    (hT : Has W t 57 [.map (some b), ptr e0 (Q ++ [i]).head?, ptr e0 (some i), .int .i64 ((Q.length : Int) + 1), .int .u64 fg])
    (hO : ∀ j, j < m → j ≠ i → Has W (e0 + j) 59 (if some j = Q.getLast? then (entC e0 Q j (L j)).set 5 (ptr e0 (some i)) else entC e0 Q j (L j)))
    (hM : W.heap[b]? = w.heap[b]?) : Tok W b t e0 n L m K (Q ++ [i]) fg := by
  refine ⟨T.map.keep hM, ?_, ?_, T.bt, T.KL, ?_, ?_⟩
  · rw [List.getLast?_concat, List.length_append]
    exact hT
  · intro j hj
    by_cases hji : j = i
    · subst hji
      have e : entC e0 (Q ++ [j]) j (L j) = [.string (L j).1, .int .u64 (L j).2.1, .int .u64 (L j).2.2, .bool true, ptr e0 Q.getLast?, .pointer none] := by
        unfold entC
        rw [older_snoc none Q j j hQ (fun _ => rfl), newer_snoc Q j j hQ T.nodup]
        simp [ptr]
      rw [e]; exact hW
    · have h := hO j hj hji
      have e : entC e0 (Q ++ [i]) j (L j) = (if some j = Q.getLast? then (entC e0 Q j (L j)).set 5 (ptr e0 (some i)) else entC e0 Q j (L j)) := by
        unfold entC
        rw [older_snoc none Q i j hQ (fun _ => rfl), newer_snoc Q i j hQ T.nodup, if_neg hji, if_neg hji]
        by_cases hl : some j = Q.getLast?
        · simp [hl, hji]
        · simp [hl, hji]
      rw [e]; exact h
  · rw [List.nodup_append]
    exact ⟨T.nodup, by simp, fun a ha c hc e => by
      simp at hc
      subst hc
      subst e
      exact hQ ha⟩
  · intro j hj
    rw [List.mem_append] at hj
    rcases hj with hj | hj
    · exact T.QK j hj
    · simp at hj; subst hj; exact ⟨hi, hK⟩
set_option maxHeartbeats 1000000 in
theorem free24_any (w : World) (b t e0 n m : Nat) (L : Nat → ByteArray × Int × Int) (K : List UInt8 → Option Nat) (Q : List Nat) (fg : Int) (s : ByteArray) (hs : s.size ≤ maxLen) (hm : m ≤ 100000)
    (T : Tok w b t e0 n L m K Q fg) (hbt : b < t) :
    Calls Try.prog 24 #[.pointer (some ⟨t, 0, none⟩), .string s] w fun e w' => e = .returned (.tuple #[]) ∧ Tok w' b t e0 n L m K (freeQ K Q (kb s)) fg ∧ w'.heap.size = w.heap.size ∧ Below b w w' := by
  have c0 := T.tok.cell 0 _ rfl
  have lk := T.map.look s hs
  cases hK : K (kb s) with
  | none =>
    rw [hK] at lk
    simp only [Option.map_none, Option.isSome_none] at lk
    have R : freeQ K Q (kb s) = Q := by simp [freeQ, hK]
    rw [R]
    have HT : Hid (Tok w b t e0 n L m K Q fg) := T
    clear T
    go_enter Try.func24, Try.ntmps24
    go_wp2_with fail
    refine bodyPost_ret (results_none rfl _ _ _) rfl ?_
    exact ⟨rfl, HT.out, rfl, Below.refl _ _⟩
  | some i =>
    rw [hK] at lk
    simp only [Option.map_some, Option.isSome_some] at lk
    have hi := T.KL _ _ hK
    have hbt2 := T.bt
    by_cases hQ : i ∈ Q
    · have R : freeQ K Q (kb s) = Q := by simp [freeQ, hK, hQ]
      rw [R]
      have c3 := (T.ent i hi.1).cell 3 _ rfl
      simp only [hQ, decide_true] at c3
      obtain ⟨q, hq⟩ : ∃ q, q = e0 + i := ⟨_, rfl⟩
      rw [← hq] at lk c3
      have HQ : Hid (q = e0 + i) := hq
      have HT : Hid (Tok w b t e0 n L m K Q fg) := T
      clear T hq
      go_enter Try.func24, Try.ntmps24
      go_wp2_with fail
      refine bodyPost_ret (results_none rfl _ _ _) rfl ?_
      exact ⟨rfl, HT.out, rfl, Below.refl _ _⟩
    · have R : freeQ K Q (kb s) = Q ++ [i] := by simp [freeQ, hK, hQ]
      rw [R]
      have E := T.ent i hi.1
      have c3 := E.cell 3 _ rfl
      simp only [hQ, decide_false] at c3
      have c4 := E.cell 4 _ rfl
      have c5 := E.cell 5 _ rfl
      obtain ⟨v4, hv4⟩ : ∃ v, v = ptr e0 (older none Q i) := ⟨_, rfl⟩
      obtain ⟨v5, hv5⟩ : ∃ v, v = ptr e0 (newer Q i) := ⟨_, rfl⟩
      rw [← hv4] at c4
      rw [← hv5] at c5
      clear hv4 hv5
      have f3 := E.free 3
      have f4 := E.free 4
      have f5 := E.free 5
      have t1 := T.tok.cell 1 _ rfl
      obtain ⟨v1, hv1⟩ : ∃ v, v = ptr e0 Q.head? := ⟨_, rfl⟩
      rw [← hv1] at t1
      clear hv1
      have t2 := T.tok.cell 2 _ rfl
      have t3 := T.tok.cell 3 _ rfl
      have k1 := T.tok.free 1
      have k2 := T.tok.free 2
      have k3 := T.tok.free 3
      have hql := T.qlen
      obtain ⟨q, hq⟩ : ∃ q, q = e0 + i := ⟨_, rfl⟩
      rw [← hq] at lk c3 c4 c5 f3 f4 f5
      have hqt : q ≠ t := by omega
      have htq : t ≠ q := by omega
      have HQ : Hid (q = e0 + i) := hq
      have HT : Hid (Tok w b t e0 n L m K Q fg) := T
      cases hl : Q.getLast? with
      | none =>
        rw [hl] at t2
        simp only [ptr, Option.map_none] at t2
        obtain rfl : Q = [] := by simpa using hl
        clear T hq E
        simp only [List.length_nil] at t3
        go_enter Try.func24, Try.ntmps24
        go_wp2_with fail
        go_end0
        have T := HT.out
        have hq := HQ.out
        have E := T.ent i hi.1
        rw [← hq] at E
        refine ⟨rfl, T.pushed i hi.1 (hi.2 ▸ hK) hQ _ ?_ ?_ ?_ ?_, by simp, ?_⟩
        · rw [← hq]
          exact (((((E.store 3 _).store 4 _).store 5 _).other _ _ hqt).other _ _ hqt).other _ _ hqt
        · have := (((((((T.tok.other ⟨q, 3, none⟩ (.bool true) htq).other ⟨q, 4, none⟩ (.pointer none) htq).other ⟨q, 5, none⟩ (.pointer none) htq).store 1 (.pointer (some ⟨q, 0, none⟩))).store 2 (.pointer (some ⟨q, 0, none⟩))).store 3 (.int .i64 1)))
          refine this.eqL ?_
          simp [ptr, hq]
        · intro j hj hji
          have hjt : e0 + j ≠ t := by omega
          have hjq : e0 + j ≠ q := by omega
          rw [if_neg (by simp)]
          exact ((((((T.ent j hj).other _ _ hjq).other _ _ hjq).other _ _ hjq).other _ _ hjt).other _ _ hjt).other _ _ hjt
        · have h1 : b ≠ q := by omega
          exact (heap_setCell_other _ _ _ _ hbt2.2.2).trans ((heap_setCell_other _ _ _ _ hbt2.2.2).trans ((heap_setCell_other _ _ _ _ hbt2.2.2).trans ((heap_setCell_other _ _ _ _ h1).trans ((heap_setCell_other _ _ _ _ h1).trans (heap_setCell_other _ _ _ _ h1)))))
        · have h1 : b ≤ q := by omega
          have h2 : b ≤ t := by omega
          exact below_set (below_set (below_set (below_set (below_set (below_set (Below.refl b w) _ _ h1) _ _ h1) _ _ h1) _ _ h2) _ _ h2) _ _ h2
      | some l =>
        rw [hl] at t2
        simp only [ptr, Option.map_some] at t2
        have hlQ := List.mem_of_getLast? hl
        have hlm := T.QK l hlQ
        obtain ⟨r, hr⟩ : ∃ r, r = e0 + l := ⟨_, rfl⟩
        have g5 := (T.ent l hlm.1).free 5
        have d5 := (T.ent l hlm.1).cell 5 _ rfl
        obtain ⟨v6, hv6⟩ : ∃ v, v = ptr e0 (newer Q l) := ⟨_, rfl⟩
        rw [← hv6] at d5
        clear hv6
        rw [← hr] at t2 g5 d5
        have hrt : r ≠ t := by omega
        have htr : t ≠ r := by omega
        have hli : l ≠ i := fun e => hQ (e ▸ hlQ)
        have hrq : r ≠ q := by omega
        have hqr : q ≠ r := by omega
        have HR : Hid (r = e0 + l) := hr
        clear T hq hr E
        go_enter Try.func24, Try.ntmps24
        go_wp2_with fail
        go_end0
        have T := HT.out
        have hq := HQ.out
        have hr := HR.out
        have E := T.ent i hi.1
        rw [← hq] at E
        refine ⟨rfl, T.pushed i hi.1 (hi.2 ▸ hK) hQ _ ?_ ?_ ?_ ?_, by simp, ?_⟩
        · rw [← hq, hl]
          refine ((((((E.store 3 _).store 4 _).store 5 _).other _ _ hqr).other _ _ hqt).other _ _ hqt).eqL ?_
          simp [ptr, entC, hr]
        · have := ((((((T.tok.other ⟨q, 3, none⟩ (.bool true) htq).other ⟨q, 4, none⟩ (.pointer (some ⟨r, 0, none⟩)) htq).other ⟨q, 5, none⟩ (.pointer none) htq).other ⟨r, 5, none⟩ (.pointer (some ⟨q, 0, none⟩)) htr).store 2 (.pointer (some ⟨q, 0, none⟩))).store 3 (.int .i64 ((Q.length : Int) + 1)))
          refine this.eqL ?_
          have hne : Q ≠ [] := fun e => by rw [e] at hlQ; cases hlQ
          have hh : (Q ++ [i]).head? = Q.head? := by
            cases Q with
            | nil => exact absurd rfl hne
            | cons x r' => rfl
          rw [hh]
          simp [ptr, hq]
        · intro j hj hji
          have hjt : e0 + j ≠ t := by omega
          have hjq : e0 + j ≠ q := by omega
          rw [hl]
          by_cases hjl : j = l
          · subst hjl
            rw [if_pos rfl]
            have E2 := T.ent j hj
            rw [← hr] at E2 hjt hjq ⊢
            refine ((((((E2.other _ _ hjq).other _ _ hjq).other _ _ hjq).store 5 _).other _ _ hjt).other _ _ hjt).eqL ?_
            simp [ptr, hq]
          · rw [if_neg (by simp [hjl])]
            have hjr : e0 + j ≠ r := by omega
            exact ((((((T.ent j hj).other _ _ hjq).other _ _ hjq).other _ _ hjq).other _ _ hjr).other _ _ hjt).other _ _ hjt
        · have h1 : b ≠ q := by omega
          have h3 : b ≠ r := by omega
          exact (heap_setCell_other _ _ _ _ hbt2.2.2).trans ((heap_setCell_other _ _ _ _ hbt2.2.2).trans ((heap_setCell_other _ _ _ _ h3).trans ((heap_setCell_other _ _ _ _ h1).trans ((heap_setCell_other _ _ _ _ h1).trans (heap_setCell_other _ _ _ _ h1)))))
        · have h1 : b ≤ q := by omega
          have h2 : b ≤ t := by omega
          have h3 : b ≤ r := by omega
          exact below_set (below_set (below_set (below_set (below_set (below_set (Below.refl b w) _ _ h1) _ _ h1) _ _ h1) _ _ h3) _ _ h2) _ _ h2
set_option maxHeartbeats 400000 in
theorem free_any (w : World) (b t e0 n m : Nat) (L : Nat → ByteArray × Int × Int) (K : List UInt8 → Option Nat) (Q : List Nat) (fg : Int) (s : ByteArray) (hs : s.size ≤ maxLen) (hm : m ≤ 100000)
    (T : Tok w b t e0 n L m K Q fg) (hbt : b < t) :
    Calls Try.prog 17 #[.pointer (some ⟨t, 0, none⟩), .string s] w fun e w' => e = .returned (.tuple #[]) ∧ Tok w' b t e0 n L m K (freeQ K Q (kb s)) fg ∧ w'.heap.size = w.heap.size ∧ Below b w w' := by
  have C := free24_any w b t e0 n m L K Q fg s hs hm T hbt
  clear T
  go_enter Try.func17, Try.ntmps17
  go_wp2_with fail
  refine C.mono ?_
  rintro e w' ⟨rfl, hw'⟩
  go_wp2_with fail
  go_end0
  exact ⟨rfl, hw'⟩
end Go.Proofs.Qxb6614828a
