import Derived.Test.Qxb6614828aForget
namespace Go.Proofs.Qxb6614828a
open Go.RowKit
set_option linter.unusedVariables false
theorem Tok.forgot {w1 w2 : World} {b t e0 n m : Nat} {L : Nat → ByteArray × Int × Int} {K : List UInt8 → Option Nat} {Q : List Nat} {fg : Int} (T : Tok w1 b t e0 n L m K Q fg) (hbt : b < t) (s : ByteArray) (i : Nat) (hK : K (kb s) = some i) (hiQ : i ∉ Q)
    (M2 : KMap w2 b n (del (fun k => (K k).map (e0 + ·)) (kb s))) (hz : w2.heap.size = w1.heap.size) (hg : w1.grownBy w2 (some b)) (v : Int) :
    Tok (w2.setCell ⟨t, 4, none⟩ (.int .u64 v)).drew b t e0 n L m (del K (kb s)) Q v ∧ (w2.setCell ⟨t, 4, none⟩ (.int .u64 v)).drew.heap.size = w1.heap.size ∧ Below b w1 (w2.setCell ⟨t, 4, none⟩ (.int .u64 v)).drew := by
  have hb2 := T.bt
  have blk2 : ∀ k, k < w1.heap.size → k ≠ b → w2.heap[k]? = w1.heap[k]? := fun k hk hkb => hg.block k hk (fun e => hkb (by cases e; rfl))
  have H2 : Has w2 t 57 [.map (some b), ptr e0 Q.head?, ptr e0 Q.getLast?, .int .i64 (Q.length : Int), .int .u64 fg] := ⟨by rw [blk2 t T.tok.lt (by omega)]; exact T.tok.blk⟩
  refine ⟨⟨?_, ?_, ?_, T.bt, ?_, T.nodup, ?_⟩, by rw [heap_drew]; simp [hz], below_drew (below_set ⟨hg.os, hg.tape, hg.output, by omega, fun k hk => blk2 k (by have := T.map.lt; omega) (by omega)⟩ _ _ (Nat.le_of_lt hbt))⟩
  · have e : (fun k => (del K (kb s) k).map (e0 + ·)) = del (fun k => (K k).map (e0 + ·)) (kb s) := by
      funext k
      unfold del
      split <;> rfl
    rw [e]
    refine M2.keep ?_
    rw [heap_drew]
    exact heap_setCell_other w2 ⟨t, 4, none⟩ b _ hb2.2.2
  · exact Has.drew (H2.store 4 _)
  · intro j hj
    have E := T.ent j hj
    refine Has.drew (Has.other ⟨?_⟩ _ _ (show e0 + j ≠ t by omega))
    rw [blk2 (e0 + j) E.lt (by omega)]
    exact E.blk
  · intro k j h
    unfold del at h
    split at h
    · cases h
    · exact T.KL k j h
  · intro j hj
    have h := T.QK j hj
    refine ⟨h.1, ?_⟩
    unfold del
    rw [if_neg]
    · exact h.2
    · intro e
      rw [e, hK] at h
      have : i = j := by simpa using h.2
      exact hiQ (this ▸ hj)
set_option maxHeartbeats 2000000 in
theorem forget_any (w : World) (b t e0 n m : Nat) (L : Nat → ByteArray × Int × Int) (K : List UInt8 → Option Nat) (i : Nat) (Q : List Nat) (fg : Int) (hm : m ≤ 100000)
    (T : Tok w b t e0 n L m K (i :: Q) fg) (hbt : b < t) (hs : (L i).1.size ≤ maxLen) :
    Calls Try.prog 31 #[.pointer (some ⟨t, 0, none⟩), .string (L i).1] w fun e w' => e = .returned (.bool true) ∧ Tok w' b t e0 n L m (del K (kb (L i).1)) Q (max fg (L i).2.1) ∧ w'.heap.size = w.heap.size ∧ Below b w w' := by
  have hi := T.QK i (by simp)
  have hbt2 := T.bt
  have lk := T.map.look (L i).1 hs
  rw [hi.2] at lk
  simp only [Option.map_some, Option.isSome_some] at lk
  have c0 := T.tok.cell 0 _ rfl
  have c3 := (T.ent i hi.1).cell 3 _ rfl
  simp only [List.mem_cons, true_or, decide_true] at c3
  have CT := unlink_any w b t e0 n m L K i Q fg hm T hbt
  obtain ⟨q, hq⟩ : ∃ q, q = e0 + i := ⟨_, rfl⟩
  obtain ⟨s, hsd⟩ : ∃ s, s = (L i).1 := ⟨_, rfl⟩
  rw [← hq] at lk c3 CT
  rw [← hsd] at lk hs ⊢
  obtain ⟨la, hla⟩ : ∃ la, la = (L i).2.1 := ⟨_, rfl⟩
  rw [← hla]
  have HLA : Hid (la = (L i).2.1) := hla
  have HQ : Hid (q = e0 + i) := hq
  have HS : Hid (s = (L i).1) := hsd
  have HN : Hid (List.Nodup (i :: Q)) := T.nodup
  clear T hq hsd hla
  go_enter Try.func31, Try.ntmps31
  go_wp2_with fail
  refine CT.mono ?_
  rintro e w1 ⟨rfl, T1, hz1, B1⟩
  clear CT lk c0 c3
  obtain ⟨w2, hrun, M2, hz2, hg2⟩ := T1.map.del s hs 0
  have hqt : q ≠ t := by have := HQ.out; omega
  have htq : t ≠ q := by have := HQ.out; omega
  have hqb : q ≠ b := by have := HQ.out; omega
  have blk2 : ∀ k, k < w1.heap.size → k ≠ b → w2.heap[k]? = w1.heap[k]? := fun k hk hkb => hg2.block k hk (fun e => hkb (by cases e; rfl))
  have H2 : Has w2 t 57 [.map (some b), ptr e0 Q.head?, ptr e0 Q.getLast?, .int .i64 (Q.length : Int), .int .u64 fg] := ⟨by rw [blk2 t T1.tok.lt (by omega)]; exact T1.tok.blk⟩
  have E1 := T1.ent i hi.1
  rw [← HQ.out] at E1
  have E2 : Has w2 q 59 (entC e0 Q i (L i)) := ⟨by rw [blk2 q E1.lt hqb]; exact E1.blk⟩
  have a0 := T1.tok.cell 0 _ rfl
  have m4 := H2.cell 4 _ rfl
  have f4 := H2.free 4
  have l1 := E2.cell 1 _ rfl
  rw [← HLA.out] at l1
  have HT1 : Hid (Tok w1 b t e0 n L m K Q fg) := T1
  clear T1
  go_wp2_with fail
  go_region
  all_goals go_wp2_with fail
  all_goals go_ret
  · have F := Tok.forgot HT1.out hbt s i (by rw [HS.out]; exact hi.2) (List.nodup_cons.1 HN.out).1 M2 hz2 hg2 la
    refine ⟨rfl, ?_, F.2.1.trans hz1, B1.trans F.2.2⟩
    rw [show max fg la = la by omega]
    exact F.1
  · have F := Tok.forgot HT1.out hbt s i (by rw [HS.out]; exact hi.2) (List.nodup_cons.1 HN.out).1 M2 hz2 hg2 fg
    refine ⟨rfl, ?_, F.2.1.trans hz1, B1.trans F.2.2⟩
    rw [show max fg la = fg by omega]
    exact F.1
def forgotK (K : List UInt8 → Option Nat) (L : Nat → ByteArray × Int × Int) (i : Nat) : List UInt8 → Option Nat := del K (kb (L i).1)
set_option maxHeartbeats 1000000 in
theorem refuse25_any (w : World) (b t e0 n m : Nat) (L : Nat → ByteArray × Int × Int) (K : List UInt8 → Option Nat) (Q : List Nat) (fg keep : Int) (T : Tok w b t e0 n L m K Q fg) (hk : (Q.length : Int) ≤ keep) :
    Calls Try.prog 25 #[.pointer (some ⟨t, 0, none⟩), .int .i64 keep] w fun e w' => e = .returned (.tuple #[.string ⟨#[]⟩, .bool false]) ∧ w' = w := by
  have c3 := T.tok.cell 3 _ rfl
  have d : decide ((Q.length : Int) ≤ keep) = true := decide_eq_true hk
  clear T
  go_enter Try.func25, Try.ntmps25
  go_wp2_with fail
  go_ret2
  exact ⟨rfl, rfl⟩
set_option maxHeartbeats 1000000 in
/-- 'forgetOldest' where it refuses. -/
theorem refuse_any (w : World) (b t e0 n m : Nat) (L : Nat → ByteArray × Int × Int) (K : List UInt8 → Option Nat) (Q : List Nat) (fg keep : Int) (T : Tok w b t e0 n L m K Q fg) (hk : (Q.length : Int) ≤ keep) :
    Calls Try.prog 18 #[.pointer (some ⟨t, 0, none⟩), .int .i64 keep] w fun e w' => e = .returned (.tuple #[.string ⟨#[]⟩, .bool false]) ∧ w' = w := by
  have CT := refuse25_any w b t e0 n m L K Q fg keep T hk
  clear T
  go_enter Try.func18, Try.ntmps18
  go_wp2_with fail
  refine CT.mono ?_
  rintro e w' ⟨rfl, rfl⟩
  go_wp2_with fail
  go_ret2
  exact ⟨rfl, rfl⟩
set_option maxHeartbeats 1000000 in
theorem forgets25_any (w : World) (b t e0 n m : Nat) (L : Nat → ByteArray × Int × Int) (K : List UInt8 → Option Nat) (i : Nat) (Q : List Nat) (fg keep : Int) (hm : m ≤ 100000)
    (T : Tok w b t e0 n L m K (i :: Q) fg) (hbt : b < t) (hs : (L i).1.size ≤ maxLen) (hk : keep < (Q.length : Int) + 1) :
    Calls Try.prog 25 #[.pointer (some ⟨t, 0, none⟩), .int .i64 keep] w fun e w' => e = .returned (.tuple #[.string (L i).1, .bool true]) ∧ Tok w' b t e0 n L m (del K (kb (L i).1)) Q (max fg (L i).2.1) ∧ w'.heap.size = w.heap.size ∧ Below b w w' := by
  have hi := T.QK i (by simp)
  have c1 := T.tok.cell 1 _ rfl
  have c3 := T.tok.cell 3 _ rfl
  simp only [List.length_cons] at c3
  simp only [ptr, List.head?_cons, Option.map_some] at c1
  have d0 := (T.ent i hi.1).cell 0 _ rfl
  have d : decide (((Q.length + 1 : Nat) : Int) ≤ keep) = false := decide_eq_false (by omega)
  have d' : decide ((Q.length : Int) + 1 ≤ keep) = false := decide_eq_false (by omega)
  have CT := forget_any w b t e0 n m L K i Q fg hm T hbt hs
  obtain ⟨q, hq⟩ : ∃ q, q = e0 + i := ⟨_, rfl⟩
  rw [← hq] at c1 d0
  obtain ⟨s, hsd⟩ : ∃ s, s = (L i).1 := ⟨_, rfl⟩
  rw [← hsd] at d0 CT ⊢
  clear T hq hsd
  go_enter Try.func25, Try.ntmps25
  go_wp2_with fail
  refine CT.mono ?_
  rintro e w1 ⟨rfl, F1⟩
  go_wp2_with fail
  go_ret2
  exact ⟨rfl, F1⟩
set_option maxHeartbeats 1000000 in
/-- 'forgetOldest' where it forgets. -/
theorem forgets_any (w : World) (b t e0 n m : Nat) (L : Nat → ByteArray × Int × Int) (K : List UInt8 → Option Nat) (i : Nat) (Q : List Nat) (fg keep : Int) (hm : m ≤ 100000)
    (T : Tok w b t e0 n L m K (i :: Q) fg) (hbt : b < t) (hs : (L i).1.size ≤ maxLen) (hk : keep < (Q.length : Int) + 1) :
    Calls Try.prog 18 #[.pointer (some ⟨t, 0, none⟩), .int .i64 keep] w fun e w' => e = .returned (.tuple #[.string (L i).1, .bool true]) ∧ Tok w' b t e0 n L m (del K (kb (L i).1)) Q (max fg (L i).2.1) ∧ w'.heap.size = w.heap.size ∧ Below b w w' := by
  have CT := forgets25_any w b t e0 n m L K i Q fg keep hm T hbt hs hk
  obtain ⟨s, hsd⟩ : ∃ s, s = (L i).1 := ⟨_, rfl⟩
  rw [← hsd] at CT ⊢
  clear T hsd
  go_enter Try.func18, Try.ntmps18
  go_wp2_with fail
  refine CT.mono ?_
  rintro e w1 ⟨rfl, F1⟩
  go_wp2_with fail
  go_ret2
  exact ⟨rfl, F1⟩
set_option maxHeartbeats 1000000 in
theorem version26_any (w : World) (b t e0 n m : Nat) (L : Nat → ByteArray × Int × Int) (K : List UInt8 → Option Nat) (Q : List Nat) (fg : Int) (s : ByteArray) (hs : s.size ≤ maxLen) (T : Tok w b t e0 n L m K Q fg) :
    Calls Try.prog 26 #[.pointer (some ⟨t, 0, none⟩), .string s] w fun e w' => e = .returned (match K (kb s) with | none => .tuple #[.int .u64 0, .bool false] | some i => .tuple #[.int .u64 (L i).2.2, .bool true]) ∧ w' = w := by
  have c0 := T.tok.cell 0 _ rfl
  have lk := T.map.look s hs
  cases hK : K (kb s) with
  | none =>
    rw [hK] at lk
    simp only [Option.map_none, Option.isSome_none] at lk
    clear T
    go_enter Try.func26, Try.ntmps26
    go_wp2_with fail
    go_ret2
    exact ⟨rfl, rfl⟩
  | some i =>
    rw [hK] at lk
    simp only [Option.map_some, Option.isSome_some] at lk
    have hi := T.KL _ _ hK
    have c2 := (T.ent i hi.1).cell 2 _ rfl
    obtain ⟨q, hq⟩ : ∃ q, q = e0 + i := ⟨_, rfl⟩
    rw [← hq] at lk c2
    clear T hq
    go_enter Try.func26, Try.ntmps26
    go_wp2_with fail
    go_ret2
    exact ⟨rfl, rfl⟩
set_option maxHeartbeats 1000000 in
theorem version_any (w : World) (b t e0 n m : Nat) (L : Nat → ByteArray × Int × Int) (K : List UInt8 → Option Nat) (Q : List Nat) (fg : Int) (s : ByteArray) (hs : s.size ≤ maxLen) (T : Tok w b t e0 n L m K Q fg) :
    Calls Try.prog 21 #[.pointer (some ⟨t, 0, none⟩), .string s] w fun e w' => e = .returned (match K (kb s) with | none => .tuple #[.int .u64 0, .bool false] | some i => .tuple #[.int .u64 (L i).2.2, .bool true]) ∧ w' = w := by
  have CT := version26_any w b t e0 n m L K Q fg s hs T
  clear T
  cases hK : K (kb s) with
  | none =>
    rw [hK] at CT
    go_enter Try.func21, Try.ntmps21
    go_wp2_with fail
    refine CT.mono ?_
    rintro e w' ⟨rfl, rfl⟩
    go_wp2_with fail
    go_ret2
    exact ⟨rfl, rfl⟩
  | some i =>
    rw [hK] at CT
    go_enter Try.func21, Try.ntmps21
    go_wp2_with fail
    refine CT.mono ?_
    rintro e w' ⟨rfl, rfl⟩
    go_wp2_with fail
    go_ret2
    exact ⟨rfl, rfl⟩
end Go.Proofs.Qxb6614828a
