import Derived.Test.Qxb6614828aScriptE
import Derived.Test.Qxb6614828aScriptQ
namespace Go.Proofs.Qxb6614828a
open Go.RowKit
set_option linter.unusedVariables false
theorem stOf_mem (A : List Nat) (h i : Nat) (hm : i ∈ A) : (stOf A h i == 0) = false := by
  rw [beq_eq_false_iff_ne]
  unfold stOf
  by_cases ht : i ∈ A.take h
  · rw [if_pos ht]; omega
  · rw [if_neg ht, if_pos hm]; omega
set_option maxRecDepth 1000000 in
set_option maxHeartbeats 8000000 in
theorem law5_C (a a1 : Option Addr) (n c c1 g0 g1 g2 b t e0 nn : Nat) (keep : Int) (L : Nat → ByteArray × Int × Int) (O : List Int) (w W : World) (hn : n ≤ 4096) (hO : O.length ≤ 4096) (E : Ents w a L n) (EO : Ints w a1 O)
    (hg : w.heap.size ≤ g0 ∧ g0 < g1 ∧ g1 < g2 ∧ g2 < b ∧ b < t) (hk0 : 0 ≤ keep) (I : Inv5 w W g0 g1 g2 b t e0 nn n L [] 0 (putsK L n) 0)
    (u6 u14 u26 u27 u28 u29 u30 u31 u32 u33 u34 u35 u36 u37 u38 u39 u40 u41 u42 u43 u44 u45 u46 u47 u48 u49 u50 u51 u52 u53 u54 u55 u56 u57 u58 u59 u60 u61 u62 u63 u64 u65 u66 u67 u68 u69 u70 u71 u72 u73 : Value) :
    Code.wp Try.prog (seqTail 12 (Try.f5.body.getD .skip)) (bodyPost Try.prog Try.f5 (fun e w' => e = .returned (.bool true) ∧ Below w.heap.size w w'))
      ⟨(.slice a n c :: .slice a1 O.length c1 :: .int .i64 keep :: undef :: undef :: undef :: u6 :: .int .i64 n :: .slice (some ⟨g0, 0, none⟩) n n :: .slice (some ⟨g1, 0, none⟩) n n :: .slice (some ⟨g2, 0, none⟩) 0 n :: .int .i64 0 :: .int .u64 0 :: .pointer (some ⟨t, 0, none⟩) :: u14 :: undef :: undef :: undef :: undef :: undef :: undef :: undef :: undef :: undef :: undef :: undef :: u26 :: u27 :: u28 :: u29 :: u30 :: u31 :: u32 :: u33 :: u34 :: u35 :: u36 :: u37 :: u38 :: u39 :: u40 :: u41 :: u42 :: u43 :: u44 :: u45 :: u46 :: u47 :: u48 :: u49 :: u50 :: u51 :: u52 :: u53 :: u54 :: u55 :: u56 :: u57 :: u58 :: u59 :: u60 :: u61 :: u62 :: u63 :: u64 :: u65 :: u66 :: u67 :: u68 :: u69 :: u70 :: u71 :: u72 :: u73 :: undef :: undef :: undef :: undef :: undef :: undef :: undef :: undef :: undef :: undef :: undef :: undef :: undef :: undef :: undef :: undef :: undef :: undef :: undef :: undef :: undef :: undef :: undef :: undef :: undef :: undef :: undef :: undef :: undef :: undef :: undef :: undef :: undef :: undef :: undef :: undef :: undef :: undef :: undef :: undef :: undef :: undef :: undef :: undef :: undef :: undef :: undef :: undef :: undef :: undef :: undef :: undef :: undef :: undef :: undef :: undef :: undef :: undef :: undef :: undef :: undef :: undef :: undef :: undef :: undef :: undef :: undef :: undef :: undef :: undef :: undef :: undef :: undef :: undef :: undef :: undef :: undef :: undef :: undef :: undef :: undef :: undef :: undef :: undef :: undef :: undef :: undef :: undef :: undef :: undef :: undef :: undef :: undef :: undef :: undef :: undef :: undef :: undef :: undef :: undef :: undef :: undef :: undef :: undef :: undef :: undef :: undef :: undef :: undef :: undef :: undef :: undef :: undef :: undef :: undef :: undef :: undef :: undef :: undef :: undef :: undef :: undef :: undef :: undef :: undef :: undef :: undef :: undef :: undef :: undef :: undef :: undef :: undef :: undef :: undef :: undef :: undef :: undef :: undef :: List.nil).toArray, []⟩ W := by
  conv => arg 2; whnf
  go_step
  go_step
  go_cut [10, 11, 12] from 74 to 166 (fun s1 s2 s3 wc => ∃ (A : List Nat) (h : Nat) (K : List UInt8 → Option Nat) (fg : Int), s1 = .slice (some ⟨g2, 0, none⟩) A.length n ∧ s2 = .int .i64 (h : Int) ∧ s3 = .int .u64 fg ∧ Inv5 w wc g0 g1 g2 b t e0 nn n L A h K fg)
  case rest =>
    rename World => W2
    obtain ⟨A, h, K, fg, rfl, rfl, rfl, I2⟩ := hcut
    go_step
    exact law5_E a n c g0 g1 g2 b t e0 nn L A h K fg w W2 hn E I2 _ _ _ _ _ _ _ _ _ _ _ _ _ _ _ _ _ _ _ _ _ _ _ _ _ _ _ _ _ _ _ _ _ _ _ _ _ _ _ _ _ _ _ _ _ _ _ _ _ _ _ _ _ _ _ _ _ _ _ _ _ _ _ _ _ _ _ _ _ _ _ _ _ _ _ _ _ _ _ _ _ _ _ _ _ _ _ _ _ _ _ _ _ _ _ _ _ _ _ _ _ _ _ _ _ _ _ _ _ _ _ _ _ _ _ _ _ _ _ _ _ _ _ _ _ _ _ _ _ _ _ _ _ _ _ _ _ _ _ _ _ _ _ _ _ _ _ _ _ _ _ _ _ _ _
  case first =>
    have HI : Hid (Inv5 w W g0 g1 g2 b t e0 nn n L [] 0 (putsK L n) 0) := I
    clear I
    go_wp2_with fail
    go_loopw [10, 11, 12, 15, 16, 17, 18, 19, 20, 21, 22] (fun s1 s2 s3 k op cc wn wo c2 gn go wr => ∃ (k' : Nat) (A : List Nat) (h : Nat) (K : List UInt8 → Option Nat) (fg : Int), k' ≤ O.length ∧ s1 = .slice (some ⟨g2, 0, none⟩) A.length n ∧ s2 = .int .i64 (h : Int) ∧ s3 = .int .u64 fg ∧ k = .int .i64 (k' : Int) ∧ Inv5 w wr g0 g1 g2 b t e0 nn n L A h K fg) (fun s1 s2 s3 k op cc wn wo c2 gn go _ => O.length - (intOf k).toNat)
    case atStart => exact ⟨0, [], 0, _, 0, Nat.zero_le _, rfl, rfl, rfl, rfl, HI.out⟩
    case round =>
      obtain ⟨k, A, h, K, fg, hk, rfl, rfl, rfl, rfl, I⟩ := hrel
      clear HI
      by_cases hlt : k < O.length
      · have hkl : (k : Int) < (O.length : Int) := by omega
        have hAn : A.length ≤ n := nodup_le n A I.nodA fun x hx => (I.hA x hx).1
        have hh := I.hh
        obtain ⟨ob, oo, rfl, co⟩ := (EO.below I.B).look k hlt
        obtain ⟨op, hop⟩ : ∃ op, op = O[k]?.getD 0 := ⟨_, rfl⟩
        rw [← hop] at co
        clear hop
        have HI : Hid (Inv5 w wr g0 g1 g2 b t e0 nn n L A h K fg) := I
        by_cases ho : 0 ≤ op ∧ op < n
        · obtain ⟨i, rfl⟩ : ∃ i : Nat, op = (i : Int) := ⟨op.toNat, by omega⟩
          have hi : i < n := by omega
          have hii : (i : Int) < (n : Int) := by omega
          have d2 : decide ((i : Int) < (n : Int)) = true := decide_eq_true hii
          have d2' : decide (i < n) = true := decide_eq_true hi
          have hcin := I.canon_lt i hi
          obtain ⟨ci, hci⟩ : ∃ ci, ci = canonTo L i n := ⟨_, rfl⟩
          rw [← hci] at hcin
          have hcii : (ci : Int) < (n : Int) := by omega
          have cc := I.h0.cell i _ (canonC_at L n n i hi)
          rw [if_pos hi, ← hci] at cc
          have cb := I.h1.cell ci _ (stateC_at A h n ci hcin)
          have fb := I.h1.free ci
          have HC : Hid (ci = canonTo L i n) := hci
          by_cases hm : ci ∈ A
          · obtain ⟨sv, hsv, hs2⟩ : ∃ sv : Int, sv = stOf A h ci ∧ (sv == 0) = false := ⟨_, rfl, stOf_mem A h ci hm⟩
            rw [← hsv] at cb
            have hfq := stays5 I i hi (hci ▸ hm)
            obtain ⟨eb, eo, rfl, ec, _, _⟩ := (E.below I.B E.lt).look i hi
            have CF := free_any wr b t e0 nn n L K (A.drop h) fg (L i).1 (E.sz i hi) (by omega) I.T (by omega)
            rw [hfq] at CF
            obtain ⟨x, hx⟩ : ∃ x, x = (L i).1 := ⟨_, rfl⟩
            rw [← hx] at ec CF
            clear hx I hfq hm hci hsv
            go_wp2_with fail
            refine CF.mono ?_
            rintro e w1 ⟨rfl, T1, hz1, B1⟩
            clear CF
            have J := HI.out
            have CR := frees_any w1 b t e0 nn n L K (A.drop h) fg T1
            rw [List.length_drop, show ((A.length - h : Nat) : Int) = (A.length : Int) - (h : Int) by omega] at CR
            have J1 : Inv5 w w1 g0 g1 g2 b t e0 nn n L A h K fg := ⟨J.h0.below B1 (by omega), J.h1.below B1 (by omega), J.h2.below B1 (by omega), T1, J.KK, J.nodA, J.hA, J.hh, J.B.trans (B1.mono (by omega))⟩
            have HJ1 : Hid (Inv5 w w1 g0 g1 g2 b t e0 nn n L A h K fg) := J1
            have r1 : ((A.length : Int) - (h : Int) != (A.length : Int) - (h : Int)) = false := by simp
            clear T1 B1 J J1
            go_wp2_with fail
            refine CR.mono ?_
            rintro e w' ⟨rfl, hw'⟩
            rw [hw']
            clear hw' w' CR
            go_wp2_with fail
            go_roundw
            case rel => exact ⟨k + 1, A, h, K, fg, by omega, rfl, rfl, rfl, by go_num, HJ1.out⟩
            case measure => simp [intOf]; omega
          · have hst : stOf A h ci = 0 := by unfold stOf; rw [if_neg (fun e => hm (List.mem_of_mem_take e)), if_neg hm]
            rw [hst] at cb
            have hroom := I.room ci hcin hm
            obtain ⟨cq, fq, j0, j1, j2, jT, jB⟩ := push5 I hg ci hcin hm
            obtain ⟨W2, hW2⟩ : ∃ W2, W2 = ((wr.setCell ⟨g1, ci, none⟩ (.int .i64 1)).alloc (.cells #[.int .i64 (ci : Int)] 3)).setCell ⟨g2, A.length, none⟩ (.int .i64 (ci : Int)) := ⟨_, rfl⟩
            obtain ⟨eb, eo, rfl, ec, _, _⟩ := (E.below jB E.lt).look i hi
            have CF := free_any _ b t e0 nn n L K (A.drop h) fg (L i).1 (E.sz i hi) (by omega) jT (by omega)
            obtain ⟨x, hx⟩ : ∃ x, x = (L i).1 := ⟨_, rfl⟩
            have HX : Hid (x = (L i).1) := hx
            rw [← hx] at ec CF
            rw [← hW2] at j0 j1 j2 jB
            have HJ : Hid ((Has W2 g0 3 (canonC L n n) ∧ Has W2 g1 3 (stateC (A ++ [ci]) h n) ∧ Has W2 g2 3 (freedC (A ++ [ci]) n) ∧ Below w.heap.size w W2) ∧ ci ∉ A) := ⟨⟨j0, j1, j2, jB⟩, hm⟩
            have HW2 : Hid (W2 = ((wr.setCell ⟨g1, ci, none⟩ (.int .i64 1)).alloc (.cells #[.int .i64 (ci : Int)] 3)).setCell ⟨g2, A.length, none⟩ (.int .i64 (ci : Int))) := hW2
            clear hx I hm jT j0 j1 j2 jB hW2 hci hst
            go_wp2_with fail
            refine CF.mono ?_
            rintro e w1 ⟨rfl, T1, hz1, B1⟩
            clear CF
            rw [← HW2.out] at B1 hz1
            obtain ⟨⟨j0, j1, j2, jB⟩, hm⟩ := HJ.out
            rw [HX.out] at T1
            have J1 := pushed5 HI.out i ci hi HC.out hcin hm (j0.below B1 (by omega)) (j1.below B1 (by omega)) (j2.below B1 (by omega)) (jB.trans (B1.mono (by omega))) T1
            have CR := frees_any w1 b t e0 nn n L K ((A ++ [ci]).drop h) fg J1.T
            rw [List.length_drop, List.length_append, List.length_singleton, show ((A.length + 1 - h : Nat) : Int) = (A.length : Int) + 1 - (h : Int) by omega] at CR
            have HJ1 : Hid (Inv5 w w1 g0 g1 g2 b t e0 nn n L (A ++ [ci]) h K fg) := J1
            have r1 : ((A.length : Int) + 1 - (h : Int) != (A.length : Int) + 1 - (h : Int)) = false := by simp
            clear T1 B1 J1 j0 j1 j2 jB hm
            go_wp2_with fail
            refine CR.mono ?_
            rintro e w' ⟨rfl, hw'⟩
            rw [hw']
            clear hw' w' CR
            go_wp2_with fail
            go_roundw
            case rel => exact ⟨k + 1, A ++ [ci], h, K, fg, by omega, by simp, rfl, rfl, by go_num, HJ1.out⟩
            case measure => simp [intOf]; omega
        · have hcond : decide (0 ≤ op) = false ∨ (decide (0 ≤ op) = true ∧ decide (op < (n : Int)) = false) := by
            by_cases h0 : 0 ≤ op
            · exact Or.inr ⟨decide_eq_true h0, decide_eq_false (fun e => ho ⟨h0, e⟩)⟩
            · exact Or.inl (decide_eq_false h0)
          clear ho
          by_cases hq : keep < (A.length : Int) - (h : Int)
          · have hlen : h < A.length := by omega
            obtain ⟨c2, hA⟩ : ∃ c2, A[h]? = some c2 := ⟨_, List.getElem?_eq_getElem hlen⟩
            have hcA := I.hA c2 (List.mem_of_getElem? hA)
            have hc2 : c2 < n := hcA.1
            have hci : (c2 : Int) < (n : Int) := by omega
            have hd : A.drop h = c2 :: A.drop (h + 1) := by
              rw [List.drop_eq_getElem_cons hlen]
              rw [List.getElem?_eq_getElem hlen] at hA
              rw [Option.some.inj hA]
            have hhl : (h : Int) < (A.length : Int) := by omega
            have dq : decide (keep < (A.length : Int) - (h : Int)) = true := decide_eq_true hq
            have cq := I.h2.cell h _ (freedC_at A n h hlen)
            rw [hA] at cq
            simp only [Option.getD_some] at cq
            have cs := I.h1.cell c2 _ (stateC_at A h n c2 hc2)
            obtain ⟨sv, hsv⟩ : ∃ sv, sv = stOf A h c2 := ⟨_, rfl⟩
            rw [← hsv] at cs
            have fb := I.h1.free c2
            have hpop := stOf_pop A h c2 hA
            obtain ⟨W1, hW1⟩ : ∃ W1, W1 = wr.setCell ⟨g1, c2, none⟩ (.int .i64 2) := ⟨_, rfl⟩
            have B1 : Below w.heap.size w W1 := by rw [hW1]; exact below_set I.B _ _ (show w.heap.size ≤ g1 by omega)
            have k0 : Has W1 g0 3 (canonC L n n) := by rw [hW1]; exact I.h0.other _ _ (show g0 ≠ g1 by omega)
            have k1 : Has W1 g1 3 (stateC A (h + 1) n) := by
              rw [hW1, ← stateC_set A A h (h + 1) n c2 hc2 hpop.2, hpop.1]; exact I.h1.store _ _
            have k2 : Has W1 g2 3 (freedC A n) := by rw [hW1]; exact I.h2.other _ _ (show g2 ≠ g1 by omega)
            have TT : Tok W1 b t e0 nn L n K (c2 :: A.drop (h + 1)) fg := by
              rw [← hd, hW1]
              exact I.T.kept hg.2.2.2.2 fun k hk hk2 => heap_setCell_other _ _ _ _ (show k ≠ g1 by omega)
            obtain ⟨eb, eo, rfl, e1, e2, _⟩ := (E.below B1 E.lt).look c2 hc2
            have CC := forgets_any W1 b t e0 nn n L K c2 (A.drop (h + 1)) fg keep (by omega) TT (by omega) (E.sz c2 hc2) (by rw [List.length_drop]; omega)
            have HK : Hid ((Has W1 g0 3 (canonC L n n) ∧ Has W1 g1 3 (stateC A (h + 1) n) ∧ Has W1 g2 3 (freedC A n) ∧ Below w.heap.size w W1) ∧ A[h]? = some c2) := ⟨⟨k0, k1, k2, B1⟩, hA⟩
            obtain ⟨x, hx⟩ : ∃ x, x = (L c2).1 := ⟨_, rfl⟩
            obtain ⟨la, hla⟩ : ∃ la, la = (L c2).2.1 := ⟨_, rfl⟩
            have HX : Hid (x = (L c2).1 ∧ la = (L c2).2.1) := ⟨hx, hla⟩
            rw [← hx] at e1 CC
            rw [← hla] at e2 CC
            rw [hW1] at e1 e2 CC
            have HW1 : Hid (W1 = wr.setCell ⟨g1, c2, none⟩ (.int .i64 2)) := hW1
            have sq : (x.toList == x.toList) = true := str_eq rfl
            have sq' : (x.toList != x.toList) = false := by simp
            clear TT k0 k1 k2 B1 hA hcA hd hsv hpop hx hla hW1 I
            by_cases hlf : fg < la
            · have d3 : decide (fg < la) = true := decide_eq_true hlf
              have hmx : max fg la = la := by omega
              rw [hmx] at CC
              clear hmx
              rcases hcond with d1 | ⟨d1, d2⟩
              all_goals
                go_wp2_with fail
                refine CC.mono ?_
                rintro e w1 ⟨rfl, T1, hz1, B1⟩
                rw [← HW1.out] at B1 hz1
                rw [HX.out.1] at T1
                obtain ⟨⟨k0, k1, k2, B0⟩, hA⟩ := HK.out
                have J1 := popped5 HI.out c2 hA (k0.below B1 (by omega)) (k1.below B1 (by omega)) (k2.below B1 (by omega)) (B0.trans (B1.mono (by omega))) T1
                have CR := frees_any w1 b t e0 nn n L _ (A.drop (h + 1)) la J1.T
                rw [List.length_drop, show ((A.length - (h + 1) : Nat) : Int) = (A.length : Int) - ((h : Int) + 1) by omega] at CR
                have HJ1 : Hid (Inv5 w w1 g0 g1 g2 b t e0 nn n L A (h + 1) (del K (kb (L c2).1)) la) := J1
                have r1 : ((A.length : Int) - ((h : Int) + 1) != (A.length : Int) - ((h : Int) + 1)) = false := by simp
                clear CC T1 B1 J1 k0 k1 k2 B0 hA
                go_wp2_with fail
                refine CR.mono ?_
                rintro e w' ⟨rfl, hw'⟩
                rw [hw']
                clear hw' w' CR
                go_wp2_with fail
                go_roundw
                case rel => exact ⟨k + 1, A, h + 1, _, la, by omega, rfl, by go_num, rfl, by go_num, HJ1.out⟩
                case measure => simp [intOf]; omega
            · have d3 : decide (fg < la) = false := decide_eq_false hlf
              have hmx : max fg la = fg := by omega
              rw [hmx] at CC
              clear hmx
              rcases hcond with d1 | ⟨d1, d2⟩
              all_goals
                go_wp2_with fail
                refine CC.mono ?_
                rintro e w1 ⟨rfl, T1, hz1, B1⟩
                rw [← HW1.out] at B1 hz1
                rw [HX.out.1] at T1
                obtain ⟨⟨k0, k1, k2, B0⟩, hA⟩ := HK.out
                have J1 := popped5 HI.out c2 hA (k0.below B1 (by omega)) (k1.below B1 (by omega)) (k2.below B1 (by omega)) (B0.trans (B1.mono (by omega))) T1
                have CR := frees_any w1 b t e0 nn n L _ (A.drop (h + 1)) fg J1.T
                rw [List.length_drop, show ((A.length - (h + 1) : Nat) : Int) = (A.length : Int) - ((h : Int) + 1) by omega] at CR
                have HJ1 : Hid (Inv5 w w1 g0 g1 g2 b t e0 nn n L A (h + 1) (del K (kb (L c2).1)) fg) := J1
                have r1 : ((A.length : Int) - ((h : Int) + 1) != (A.length : Int) - ((h : Int) + 1)) = false := by simp
                clear CC T1 B1 J1 k0 k1 k2 B0 hA
                go_wp2_with fail
                refine CR.mono ?_
                rintro e w' ⟨rfl, hw'⟩
                rw [hw']
                clear hw' w' CR
                go_wp2_with fail
                go_roundw
                case rel => exact ⟨k + 1, A, h + 1, _, fg, by omega, rfl, by go_num, rfl, by go_num, HJ1.out⟩
                case measure => simp [intOf]; omega
          · have dq : decide (keep < (A.length : Int) - (h : Int)) = false := decide_eq_false hq
            have CC := refuse_any wr b t e0 nn n L K (A.drop h) fg keep I.T (by rw [List.length_drop]; omega)
            have CR := frees_any wr b t e0 nn n L K (A.drop h) fg I.T
            rw [List.length_drop, show ((A.length - h : Nat) : Int) = (A.length : Int) - (h : Int) by omega] at CR
            have r1 : ((A.length : Int) - (h : Int) != (A.length : Int) - (h : Int)) = false := by simp
            clear I
            rcases hcond with d1 | ⟨d1, d2⟩
            all_goals
              go_wp2_with fail
              refine CC.mono ?_
              rintro e w' ⟨rfl, hw'⟩
              rw [hw']
              clear hw' w' CC
              go_wp2_with fail
              refine CR.mono ?_
              rintro e w' ⟨rfl, hw'⟩
              rw [hw']
              clear hw' w' CR
              go_wp2_with fail
              go_roundw
              case rel => exact ⟨k + 1, A, h, K, fg, by omega, rfl, rfl, rfl, by go_num, HI.out⟩
              case measure => simp [intOf]; omega
      · obtain rfl : k = O.length := by omega
        go_wp2_with fail
        go_meet
        case rel => exact ⟨A, h, K, fg, rfl, rfl, rfl, I⟩
end Go.Proofs.Qxb6614828a
