import Derived.Test.Qxb6614828aDrainD0
namespace Go.Proofs.Qxb6614828a
open Go.RowKit
set_option linter.unusedVariables false
/-- Integers that came in. -/
structure Ints (w : World) (a : Option Addr) (O : List Int) : Prop where
  look : ∀ k, k < O.length → ∃ b off, a = some ⟨b, off, none⟩ ∧ w.cell? ⟨b, off + k, none⟩ = some (.int .i64 (O[k]?.getD 0))
theorem Ints.below {w w' : World} {a : Option Addr} {O : List Int} (E : Ints w a O) (hb : Below w.heap.size w w') : Ints w' a O :=
  ⟨fun i hi => by
    obtain ⟨b, off, ha, h0⟩ := E.look i hi
    exact ⟨b, off, ha, (World.cell?_of_block (hb.block b (block_lt_of_cell h0))).trans h0⟩⟩
structure Inv6 (w W : World) (g0 g1 g2 b t e0 nn n : Nat) (L : Nat → ByteArray × Int × Int) (Q : List Nat) : Prop where
  h0 : Has W g0 3 (canonC L n n)
  h1 : Has W g1 4 (boolC Q n)
  h2 : Has W g2 3 (freedC Q n)
  T : Tok W b t e0 nn L n (putsK L n) Q 0
  B : Below w.heap.size w W
theorem Has.alloc {w : World} {g : Nat} {e : TypeId} {L : List Value} (h : Has w g e L) (o : Obj) : Has (w.alloc o) g e L := ⟨(heap_alloc_old _ _ h.lt).trans h.blk⟩
theorem freedC_room (Q : List Nat) (n : Nat) (h : Q.length < n) : (freedC Q n)[Q.length]? = some (.int .i64 0) := by
  unfold freedC
  rw [List.getElem?_append_right (by simp), List.getElem?_replicate, if_pos (by simp; omega)]
theorem push_world {w wr : World} {g0 g1 g2 b t e0 nn n : Nat} {L : Nat → ByteArray × Int × Int} {Q : List Nat} (J : Inv6 w wr g0 g1 g2 b t e0 nn n L Q) (hg : w.heap.size ≤ g0 ∧ g0 < g1 ∧ g1 < g2 ∧ g2 < b ∧ b < t) (ci : Nat) (hci : ci < n) (hql : Q.length < n) :
    ((wr.setCell ⟨g1, ci, none⟩ (.bool true)).alloc (.cells #[.int .i64 (ci : Int)] 3)).cell? ⟨g2, Q.length, none⟩ = some (.int .i64 0) ∧ ((wr.setCell ⟨g1, ci, none⟩ (.bool true)).alloc (.cells #[.int .i64 (ci : Int)] 3)).frozen? ⟨g2, Q.length, none⟩ = false ∧
    Has (((wr.setCell ⟨g1, ci, none⟩ (.bool true)).alloc (.cells #[.int .i64 (ci : Int)] 3)).setCell ⟨g2, Q.length, none⟩ (.int .i64 (ci : Int))) g0 3 (canonC L n n) ∧
    Has (((wr.setCell ⟨g1, ci, none⟩ (.bool true)).alloc (.cells #[.int .i64 (ci : Int)] 3)).setCell ⟨g2, Q.length, none⟩ (.int .i64 (ci : Int))) g1 4 (boolC (Q ++ [ci]) n) ∧
    Has (((wr.setCell ⟨g1, ci, none⟩ (.bool true)).alloc (.cells #[.int .i64 (ci : Int)] 3)).setCell ⟨g2, Q.length, none⟩ (.int .i64 (ci : Int))) g2 3 (freedC (Q ++ [ci]) n) ∧
    Tok (((wr.setCell ⟨g1, ci, none⟩ (.bool true)).alloc (.cells #[.int .i64 (ci : Int)] 3)).setCell ⟨g2, Q.length, none⟩ (.int .i64 (ci : Int))) b t e0 nn L n (putsK L n) Q 0 ∧
    Below w.heap.size w (((wr.setCell ⟨g1, ci, none⟩ (.bool true)).alloc (.cells #[.int .i64 (ci : Int)] 3)).setCell ⟨g2, Q.length, none⟩ (.int .i64 (ci : Int))) := by
  have H0 := (J.h0.other ⟨g1, ci, none⟩ (.bool true) (show g0 ≠ g1 by omega)).alloc (.cells #[.int .i64 (ci : Int)] 3)
  have H1 := (J.h1.store ci (.bool true)).alloc (.cells #[.int .i64 (ci : Int)] 3)
  have H2 := (J.h2.other ⟨g1, ci, none⟩ (.bool true) (show g2 ≠ g1 by omega)).alloc (.cells #[.int .i64 (ci : Int)] 3)
  have hsz : w.heap.size ≤ wr.heap.size := J.B.size
  refine ⟨H2.cell _ _ (freedC_room Q n hql), H2.free _, H0.other _ _ (show g0 ≠ g2 by omega), ?_, ?_, ?_, ?_⟩
  · rw [← boolC_set Q n ci hci]; exact H1.other _ _ (show g1 ≠ g2 by omega)
  · rw [← freedC_set Q n ci hql]; exact H2.store _ _
  · refine J.T.kept hg.2.2.2.2 fun k hk hk2 => ?_
    rw [heap_setCell_other _ _ _ _ (show k ≠ g2 by omega), heap_alloc_old _ _ (by simpa using hk2), heap_setCell_other _ _ _ _ (show k ≠ g1 by omega)]
  · refine below_set ?_ _ _ (show w.heap.size ≤ g2 by omega)
    have B1 := below_set J.B ⟨g1, ci, none⟩ (.bool true) (show w.heap.size ≤ g1 by omega)
    exact B1.alloc (by simpa using hsz) _
set_option maxRecDepth 1000000 in
set_option maxHeartbeats 4000000 in
theorem law6_C (a a1 : Option Addr) (n c c1 g0 g1 g2 b t e0 nn : Nat) (keep : Int) (L : Nat → ByteArray × Int × Int) (O : List Int) (w W : World) (hn : n ≤ 4096) (hO : O.length ≤ 4096) (E : Ents w a L n) (EO : Ints w a1 O) (B : Below w.heap.size w W)
    (hg : w.heap.size ≤ g0 ∧ g0 < g1 ∧ g1 < g2 ∧ g2 < b ∧ b < t) (hk0 : 0 ≤ keep) (I : Inv6 w W g0 g1 g2 b t e0 nn n L [])
    (u6 u12 u25 u26 u27 u28 u29 u30 u31 u32 u33 u34 u35 u36 u37 u38 u39 u40 u41 u42 u43 u44 u45 u46 u47 u48 u49 u50 u51 u52 u53 u54 u55 u56 u57 u58 u59 u60 u61 u62 u63 u64 u65 u66 u67 u68 u69 u70 u71 u72 : Value) :
    Code.wp Try.prog (seqTail 10 (Try.f6.body.getD .skip)) (bodyPost Try.prog Try.f6 (fun e w' => e = .returned (.bool true) ∧ Below w.heap.size w w'))
      ⟨(.slice a n c :: .slice a1 O.length c1 :: .int .i64 keep :: undef :: undef :: undef :: u6 :: .int .i64 n :: .slice (some ⟨g0, 0, none⟩) n n :: .slice (some ⟨g1, 0, none⟩) n n :: .slice (some ⟨g2, 0, none⟩) 0 n :: .pointer (some ⟨t, 0, none⟩) :: u12 :: undef :: undef :: undef :: undef :: undef :: undef :: undef :: undef :: undef :: undef :: undef :: undef :: u25 :: u26 :: u27 :: u28 :: u29 :: u30 :: u31 :: u32 :: u33 :: u34 :: u35 :: u36 :: u37 :: u38 :: u39 :: u40 :: u41 :: u42 :: u43 :: u44 :: u45 :: u46 :: u47 :: u48 :: u49 :: u50 :: u51 :: u52 :: u53 :: u54 :: u55 :: u56 :: u57 :: u58 :: u59 :: u60 :: u61 :: u62 :: u63 :: u64 :: u65 :: u66 :: u67 :: u68 :: u69 :: u70 :: u71 :: u72 :: undef :: undef :: undef :: undef :: undef :: undef :: undef :: undef :: undef :: undef :: undef :: undef :: undef :: undef :: undef :: undef :: undef :: undef :: undef :: undef :: undef :: undef :: undef :: undef :: undef :: undef :: undef :: undef :: undef :: undef :: undef :: undef :: undef :: undef :: undef :: undef :: undef :: undef :: undef :: undef :: undef :: undef :: undef :: undef :: undef :: undef :: undef :: undef :: undef :: undef :: undef :: undef :: undef :: undef :: undef :: undef :: undef :: undef :: undef :: undef :: undef :: undef :: undef :: undef :: undef :: undef :: undef :: undef :: undef :: undef :: undef :: undef :: undef :: undef :: undef :: undef :: undef :: undef :: undef :: undef :: undef :: undef :: undef :: undef :: undef :: undef :: undef :: undef :: undef :: undef :: undef :: undef :: undef :: undef :: undef :: undef :: undef :: undef :: undef :: undef :: undef :: undef :: undef :: undef :: undef :: undef :: undef :: undef :: undef :: undef :: undef :: undef :: undef :: undef :: undef :: undef :: undef :: undef :: undef :: undef :: undef :: undef :: undef :: undef :: undef :: undef :: undef :: undef :: undef :: undef :: List.nil).toArray, []⟩ W := by
  conv => arg 2; whnf
  go_step
  go_step
  go_cut [10] from 73 to 112 (fun s wc => ∃ Q : List Nat, s = .slice (some ⟨g2, 0, none⟩) Q.length n ∧ Inv6 w wc g0 g1 g2 b t e0 nn n L Q)
  case rest =>
    rename World => W2
    obtain ⟨Q, rfl, I2⟩ := hcut
    go_step
    exact law6_D a n c g2 b t e0 nn keep L (putsK L n) Q 0 w W2 hn E I2.B (by omega) I2.h2 hk0 (fun i hi => (I2.T.QK i hi).1) I2.T.qlen I2.T _ _ _ _ _ _ _ _ _ _ _ _ _ _ _ _ _ _ _ _ _ _ _ _ _ _ _ _ _ _ _ _ _ _ _ _ _ _ _ _ _ _ _ _ _ _ _ _ _ _ _ _ _ _ _ _ _ _ _ _ _ _ _ _ _ _ _ _ _ _ _ _ _ _ _ _ _ _ _ _ _ _ _ _ _ _ _ _ _ _ _ _ _ _ _ _
  case first =>
    have HI : Hid (Inv6 w W g0 g1 g2 b t e0 nn n L []) := I
    clear I B
    go_wp2_with fail
    go_loopw [10, 13, 14, 15] (fun fr k op cc wr => ∃ (k' : Nat) (Q : List Nat), k' ≤ O.length ∧ fr = .slice (some ⟨g2, 0, none⟩) Q.length n ∧ k = .int .i64 (k' : Int) ∧ Inv6 w wr g0 g1 g2 b t e0 nn n L Q) (fun fr k op cc _ => O.length - (intOf k).toNat)
    case atStart => exact ⟨0, [], Nat.zero_le _, rfl, rfl, HI.out⟩
    case round =>
      obtain ⟨k, Q, hk, rfl, rfl, I⟩ := hrel
      clear HI
      by_cases hlt : k < O.length
      · have hkl : (k : Int) < (O.length : Int) := by omega
        obtain ⟨ob, oo, rfl, co⟩ := (EO.below I.B).look k hlt
        obtain ⟨op, hop⟩ : ∃ op, op = O[k]?.getD 0 := ⟨_, rfl⟩
        rw [← hop] at co
        clear hop
        have HI : Hid (Inv6 w wr g0 g1 g2 b t e0 nn n L Q) := I
        by_cases ho1 : op < 0
        · have d1 : decide (op < 0) = true := decide_eq_true ho1
          clear I
          go_wp2_with fail
          go_roundw
          case rel => exact ⟨k + 1, Q, by omega, rfl, by go_num, HI.out⟩
          case measure => simp [intOf]; omega
        have d1 : decide (op < 0) = false := decide_eq_false ho1
        by_cases ho2 : (n : Int) ≤ op
        · have d2 : decide ((n : Int) ≤ op) = true := decide_eq_true ho2
          clear I
          go_wp2_with fail
          go_roundw
          case rel => exact ⟨k + 1, Q, by omega, rfl, by go_num, HI.out⟩
          case measure => simp [intOf]; omega
        obtain ⟨i, rfl⟩ : ∃ i : Nat, op = (i : Int) := ⟨op.toNat, by omega⟩
        have d2 : decide ((n : Int) ≤ (i : Int)) = false := decide_eq_false ho2
        have d2' : decide (n ≤ i) = false := decide_eq_false (by omega)
        have hi : i < n := by omega
        have hii : (i : Int) < (n : Int) := by omega
        obtain ⟨ci, hci⟩ : ∃ ci, ci = canonTo L i n := ⟨_, rfl⟩
        have hcin : ci < n := by
          have := I.T.KL _ _ (putsK_canon L i n hi)
          rw [hci]; exact this.1
        have hcii : (ci : Int) < (n : Int) := by omega
        have cc := I.h0.cell i _ (canonC_at L n n i hi)
        rw [if_pos hi, ← hci] at cc
        have cb := I.h1.cell ci _ (boolC_at Q n ci hcin)
        have fb := I.h1.free ci
        have hfq := freeQ_canon L n i hi Q
        rw [← hci] at hfq
        have HC : Hid (ci = canonTo L i n) := hci
        clear hci
        by_cases hm : ci ∈ Q
        · simp only [hm, decide_true] at cb
          rw [if_pos hm] at hfq
          obtain ⟨eb, eo, rfl, ec, _, _⟩ := (E.below I.B E.lt).look i hi
          have CF := free_any wr b t e0 nn n L (putsK L n) Q 0 (L i).1 (E.sz i hi) (by omega) I.T (by omega)
          rw [hfq] at CF
          obtain ⟨x, hx⟩ : ∃ x, x = (L i).1 := ⟨_, rfl⟩
          rw [← hx] at ec CF
          clear hx I hfq hm
          go_wp2_with fail
          refine CF.mono ?_
          rintro e w1 ⟨rfl, T1, hz1, B1⟩
          clear CF
          have J := HI.out
          go_wp2_with fail
          go_roundw
          case rel => exact ⟨k + 1, Q, by omega, rfl, by go_num, J.h0.below B1 (by omega), J.h1.below B1 (by omega), J.h2.below B1 (by omega), T1, J.B.trans (B1.mono (by omega))⟩
          case measure => simp [intOf]; omega
        · simp only [hm, decide_false] at cb
          rw [if_neg hm] at hfq
          have hql : Q.length < n := by
            have h := nodup_le n (Q ++ [ci]) (by
              rw [List.nodup_append]
              exact ⟨I.T.nodup, by simp, fun a ha c hc e => by
                simp at hc
                subst hc
                subst e
                exact hm ha⟩) (fun x hx => by
              rw [List.mem_append] at hx
              rcases hx with hx | hx
              · exact (I.T.QK x hx).1
              · simp at hx; omega)
            simp at h
            omega
          obtain ⟨cq, fq, j0, j1, j2, jT, jB⟩ := push_world I hg ci hcin hql
          obtain ⟨W2, hW2⟩ : ∃ W2, W2 = ((wr.setCell ⟨g1, ci, none⟩ (.bool true)).alloc (.cells #[.int .i64 (ci : Int)] 3)).setCell ⟨g2, Q.length, none⟩ (.int .i64 (ci : Int)) := ⟨_, rfl⟩
          obtain ⟨eb, eo, rfl, ec, _, _⟩ := (E.below jB E.lt).look i hi
          have CF := free_any _ b t e0 nn n L (putsK L n) Q 0 (L i).1 (E.sz i hi) (by omega) jT (by omega)
          rw [hfq] at CF
          obtain ⟨x, hx⟩ : ∃ x, x = (L i).1 := ⟨_, rfl⟩
          rw [← hx] at ec CF
          rw [← hW2] at j0 j1 j2 jB
          have HJ : Hid (Has W2 g0 3 (canonC L n n) ∧ Has W2 g1 4 (boolC (Q ++ [ci]) n) ∧ Has W2 g2 3 (freedC (Q ++ [ci]) n) ∧ Below w.heap.size w W2) := ⟨j0, j1, j2, jB⟩
          have HW2 : Hid (W2 = ((wr.setCell ⟨g1, ci, none⟩ (.bool true)).alloc (.cells #[.int .i64 (ci : Int)] 3)).setCell ⟨g2, Q.length, none⟩ (.int .i64 (ci : Int))) := hW2
          clear hx I hfq hm jT j0 j1 j2 jB hW2
          go_wp2_with fail
          refine CF.mono ?_
          rintro e w1 ⟨rfl, T1, hz1, B1⟩
          clear CF
          rw [← HW2.out] at B1 hz1
          obtain ⟨j0, j1, j2, jB⟩ := HJ.out
          go_wp2_with fail
          go_roundw
          case rel => exact ⟨k + 1, Q ++ [ci], by omega, by simp, by go_num, j0.below B1 (by omega), j1.below B1 (by omega), j2.below B1 (by omega), T1, jB.trans (B1.mono (by omega))⟩
          case measure => simp [intOf]; omega
      · obtain rfl : k = O.length := by omega
        go_wp2_with fail
        go_meet
        case rel => exact ⟨Q, rfl, I⟩
end Go.Proofs.Qxb6614828a
