import Derived.Test.Qxb6613719aDoorLawC
import Derived.Test.Qxb6613719aDoorPlain
namespace Go.Proofs.Qxb6613719aDoor
open Go.RowKit
set_option linter.unusedVariables false
theorem chain_pos {C : List Int} {y : Int} (h : chainB C y = true) : 0 < y := by
  unfold chainB at h; simp at h; exact h.1
theorem addsOf_len_le (M : List Int) (gen y start : Int) (bc bf : Bool) : (addsOf M gen y start bc bf).length ≤ 2 := addsOf_le M gen y start bc bf
set_option maxRecDepth 1000000 in
set_option maxHeartbeats 4000000 in
theorem law3_B2 (a0 fa ca ja pa ea : Option Addr) (c0 fc cc jc pc ec : Nat) (M F C J P E : List Int) (gen start en : Int) (y : Nat) (w W : World) (B : Below w.heap.size w W)
    (sM : RowO W .i64 a0 M) (nM : a0 = none → M.length = 0) (rF : Row W .u64 fa F) (rC : Row W .u64 ca C) (rJ : Row W .i32 ja J) (rP : Row W .i32 pa P) (rE : Row W .i64 ea E)
    (qF : ∀ q, fa = some ⟨q, 0, none⟩ → q < W.heap.size) (qC : ∀ q, ca = some ⟨q, 0, none⟩ → q < W.heap.size) (qJ : ∀ q, ja = some ⟨q, 0, none⟩ → q < W.heap.size)
    (qP : ∀ q, pa = some ⟨q, 0, none⟩ → q < W.heap.size) (qE : ∀ q, ea = some ⟨q, 0, none⟩ → q < W.heap.size)
    (bF : ∀ j : Nat, 0 ≤ F[j]?.getD 0 ∧ F[j]?.getD 0 ≤ 18446744073709551615) (bC : ∀ j : Nat, 0 ≤ C[j]?.getD 0 ∧ C[j]?.getD 0 ≤ 18446744073709551615) (bP : ∀ j : Nat, -2147483648 ≤ P[j]?.getD 0 ∧ P[j]?.getD 0 ≤ 2147483647)
    (lM : M.length ≤ 16384) (lP : P.length ≤ 16384) (lE : E.length = P.length) (hy : y < 16384)
    (hJ : y < J.length) (hj : J[y]?.getD 0 < 0) (hF : y / 64 < F.length) (hC : 0 < y → (y - 1) / 64 < C.length)
    (hcm : chainB C y = true → (y : Int) - 1 < M.length) (hfm : bitAt F y = true → 0 ≤ start ∧ start < M.length)
    (u21 u22 u23 u24 u25 u40 u41 u42 u43 u44 u45 u46 u47 u48 u49 u50 u51 u52 u53 u54 u55 u56 u57 u58 u59 u60 u61 u62 u63 u64 u65 u66 u67 u68 u69 u70 u71 u72 u73 u74 u75 u76 u77 u78 u79 u80 u81 u82 u83 u84 u85 u86 u87 u88 u89 u90 u91 u92 u93 u94 u95 u96 u97 u98 u99 u100 u101 u102 u103 u104 u105 u106 u107 u108 u109 u110 u111 u112 u113 u114 u115 u116 u117 u118 u119 u120 u121 u122 u123 u124 u125 u126 u127 u128 u129 u130 u131 u132 u133 u134 u135 u136 u137 u138 u139 u140 u141 u142 u143 u144 u145 u146 u147 u148 u149 u150 u151 u152 u153 u154 u155 u156 u157 u158 u159 u160 u161 u162 u163 u164 u165 u166 u167 u168 u169 u170 u171 u172 u173 u174 u175 u176 u177 u178 u179 u180 u181 u182 u183 u184 u185 u186 u187 u188 u189 u190 u191 : Value) :
    Code.wp Tryd.prog (seqTail 17 (Tryd.f3.body.getD .skip)) (bodyPost Tryd.prog Tryd.f3 (fun e w' => e = .returned (.bool true) ∧ Below w.heap.size w w'))
      ⟨(.slice a0 M.length c0 :: .int .i64 gen :: .int .i64 start :: .slice fa F.length fc :: .slice ca C.length cc :: .slice ja J.length jc :: .slice pa P.length pc :: .slice ea P.length ec :: .int .i32 y :: .int .i64 en :: undef :: undef :: undef :: undef :: undef :: undef :: undef :: undef :: undef :: undef :: .bool false :: u21 :: u22 :: u23 :: u24 :: u25 :: .int .i64 y :: .bool (chainB C y) :: .bool (bitAt F y) :: undef :: undef :: undef :: undef :: undef :: undef :: undef :: undef :: undef :: undef :: undef :: u40 :: u41 :: u42 :: u43 :: u44 :: u45 :: u46 :: u47 :: u48 :: u49 :: u50 :: u51 :: u52 :: u53 :: u54 :: u55 :: u56 :: u57 :: u58 :: u59 :: u60 :: u61 :: u62 :: u63 :: u64 :: u65 :: u66 :: u67 :: u68 :: u69 :: u70 :: u71 :: u72 :: u73 :: u74 :: u75 :: u76 :: u77 :: u78 :: u79 :: u80 :: u81 :: u82 :: u83 :: u84 :: u85 :: u86 :: u87 :: u88 :: u89 :: u90 :: u91 :: u92 :: u93 :: u94 :: u95 :: u96 :: u97 :: u98 :: u99 :: u100 :: u101 :: u102 :: u103 :: u104 :: u105 :: u106 :: u107 :: u108 :: u109 :: u110 :: u111 :: u112 :: u113 :: u114 :: u115 :: u116 :: u117 :: u118 :: u119 :: u120 :: u121 :: u122 :: u123 :: u124 :: u125 :: u126 :: u127 :: u128 :: u129 :: u130 :: u131 :: u132 :: u133 :: u134 :: u135 :: u136 :: u137 :: u138 :: u139 :: u140 :: u141 :: u142 :: u143 :: u144 :: u145 :: u146 :: u147 :: u148 :: u149 :: u150 :: u151 :: u152 :: u153 :: u154 :: u155 :: u156 :: u157 :: u158 :: u159 :: u160 :: u161 :: u162 :: u163 :: u164 :: u165 :: u166 :: u167 :: u168 :: u169 :: u170 :: u171 :: u172 :: u173 :: u174 :: u175 :: u176 :: u177 :: u178 :: u179 :: u180 :: u181 :: u182 :: u183 :: u184 :: u185 :: u186 :: u187 :: u188 :: u189 :: u190 :: u191 :: undef :: undef :: undef :: undef :: undef :: undef :: undef :: undef :: undef :: undef :: undef :: undef :: undef :: undef :: undef :: undef :: undef :: undef :: undef :: undef :: undef :: undef :: undef :: undef :: undef :: undef :: undef :: undef :: undef :: undef :: undef :: undef :: undef :: undef :: undef :: undef :: undef :: undef :: undef :: undef :: undef :: undef :: undef :: undef :: undef :: undef :: undef :: undef :: undef :: undef :: undef :: undef :: undef :: undef :: undef :: undef :: undef :: undef :: undef :: undef :: undef :: undef :: undef :: undef :: undef :: undef :: undef :: undef :: undef :: undef :: undef :: undef :: undef :: undef :: undef :: undef :: undef :: undef :: undef :: undef :: undef :: undef :: undef :: undef :: undef :: undef :: undef :: undef :: undef :: undef :: undef :: undef :: undef :: undef :: undef :: undef :: undef :: undef :: undef :: undef :: undef :: undef :: undef :: undef :: undef :: undef :: undef :: undef :: undef :: undef :: undef :: undef :: undef :: undef :: List.nil).toArray, []⟩ W := by
  conv => arg 2; whnf
  have HH : Hid ((∀ j : Nat, 0 ≤ F[j]?.getD 0 ∧ F[j]?.getD 0 ≤ 18446744073709551615) ∧ (∀ j : Nat, 0 ≤ C[j]?.getD 0 ∧ C[j]?.getD 0 ≤ 18446744073709551615) ∧ (∀ j : Nat, -2147483648 ≤ P[j]?.getD 0 ∧ P[j]?.getD 0 ≤ 2147483647) ∧
    E.length = P.length ∧ y < J.length ∧ J[y]?.getD 0 < 0 ∧ y / 64 < F.length ∧ (0 < y → (y - 1) / 64 < C.length) ∧ (chainB C y = true → (y : Int) - 1 < M.length) ∧ (bitAt F y = true → 0 ≤ start ∧ start < M.length)) := ⟨bF, bC, bP, lE, hJ, hj, hF, hC, hcm, hfm⟩
  clear bF bC bP lE hJ hj hF hC hcm hfm
  go_wp2_with fail
  refine (clone_any a0 c0 M W lM sM nM).mono ?_
  rintro e W6 ⟨ma, rfl, hma, b6⟩
  go_wp2_with fail
  refine (newSearch_any ma M.length M.length gen W6).mono ?_
  rintro e W7 ⟨rfl, S7, z7, b7⟩
  go_wp2_with fail
  refine (newTable_any start fa ca ja F.length fc C.length cc J.length jc W7).mono ?_
  rintro e W8 ⟨rfl, T8, z8, b8⟩
  obtain ⟨g, hg1, hg2⟩ : ∃ g : Nat, (0 < M.length → g = W.heap.size) ∧ (¬ 0 < M.length → g = W8.heap.size) := by
    by_cases h0 : 0 < M.length
    · exact ⟨_, fun _ => rfl, fun h => absurd h0 h⟩
    · exact ⟨_, fun h => absurd h h0, fun _ => rfl⟩
  have hs6 := b6.size
  have hs7 := b7.size
  have hs8 := b8.size
  have hgne : ∀ q, q < W.heap.size → q < W8.heap.size ∧ q ≠ g := fun q hq => ⟨by omega, by
    by_cases h0 : 0 < M.length
    · rw [hg1 h0]; omega
    · rw [hg2 h0]; omega⟩
  have h68 : Below W.heap.size W W8 := b6.trans ((b7.mono hs6).trans (b8.mono (by omega)))
  have h6lt : 0 < M.length → W.heap.size < W6.heap.size := fun h0 => (hma h0).2.lt
  have I : In W8 W6.heap.size W7.heap.size g W8.heap.size ma M.length gen start M F C J fa ca ja fc cc jc := by
    obtain ⟨bF, bC, bP, lE, hJ, hj, hF, hC, hcm, hfm⟩ := HH.out
    refine ⟨S7.kept (b8.block _ (by omega)), T8, ?_, ?_, rF.below h68, rC.below h68, rJ.below h68, bF, bC, fun q hq => hgne q (qF q hq), fun q hq => hgne q (qC q hq), fun q hq => hgne q (qJ q hq), ?_, ?_, ?_, lM⟩
    · intro h0; rw [hg1 h0]; exact (hma h0).1
    · intro h0; rw [hg1 h0]; exact ((hma h0).2.below b7 (h6lt h0)).below b8 (by have := h6lt h0; omega)
    · intro h0; rw [hg1 h0]; have := h6lt h0; omega
    · refine ⟨by omega, ?_⟩
      by_cases h0 : 0 < M.length
      · rw [hg1 h0]; have := h6lt h0; omega
      · rw [hg2 h0]; omega
    · refine ⟨by omega, ?_⟩
      by_cases h0 : 0 < M.length
      · rw [hg1 h0]; have := h6lt h0; omega
      · rw [hg2 h0]; omega
  have rP8 := rP.below h68
  have rE8 := rE.below h68
  have sM8 := sM.below h68
  have B8 : Below w.heap.size w W8 := B.trans (h68.mono B.size)
  have HZ := zzStepBack_any W6.heap.size W7.heap.size g ma M.length pa ea pc ec y en gen start P E M F C J fa ca ja fc cc jc W8 I HH.out.2.2.2.1.symm (by omega) rP8 rE8 hy HH.out.2.2.2.2.1 HH.out.2.2.2.2.2.1 HH.out.2.2.2.2.2.2.1 HH.out.2.2.2.2.2.2.2.1 HH.out.2.2.2.2.2.2.2.2.1 HH.out.2.2.2.2.2.2.2.2.2
  rw [z7] at HZ
  clear T8
  go_wp2_with fail
  refine HZ.mono ?_
  rintro e W9 ⟨q1, q2, n9, hn9, rfl, hq1, hq2, hO1, hO2, hM9, K9⟩
  clear HZ
  obtain ⟨bF, bC, bP, lE, hJ, hj, hF, hC, hcm, hfm⟩ := HH.out
  obtain ⟨bc, hbc⟩ : ∃ bc, bc = chainB C y := ⟨_, rfl⟩
  obtain ⟨bf, hbf⟩ : ∃ bf, bf = bitAt F y := ⟨_, rfl⟩
  rw [← hbc] at hn9 hO1 hO2 hM9 hcm ⊢
  rw [← hbf] at hn9 hO1 hO2 hM9 hfm ⊢
  have hcm' : bc = true → 0 ≤ (y : Int) - 1 ∧ (y : Int) - 1 < M.length := fun h => ⟨by have := chain_pos (hbc ▸ h); omega, hcm h⟩
  obtain ⟨A, hA⟩ : ∃ A, A = addsOf M gen y start bc bf := ⟨_, rfl⟩
  have hAb : ∀ z ∈ A, 0 ≤ z ∧ z < (M.length : Int) := by rw [hA]; exact adds_bd M gen y start bc bf hcm' hfm
  have hAl : A.length ≤ 2 := by rw [hA]; exact addsOf_le _ _ _ _ _ _
  have hcnt : ∀ x : Nat, x < M.length → countOf x ((P ++ A).drop P.length) = if reachB bc bf y start x = true ∧ ¬ M[x]?.getD 0 = gen then 1 else 0 := fun x hx => by
    rw [List.drop_left, hA]; exact count_adds M gen y start bc bf x hx hcm' hfm
  have hmrk : ∀ x : Nat, x < M.length → (marksOf M gen y start bc bf)[x]?.getD 0 = if reachB bc bf y start x = true then gen else M[x]?.getD 0 := fun x hx => marks_at M gen y start bc bf x hx hcm' hfm
  have hnew := fun j h0 h1 => news P E A en M.length lE hAb j h0 h1
  have hold := fun j h0 => olds P E A en lE j h0
  have bO := bound_append P A M.length lM bP hAb
  rw [← hA] at hn9 hO1 hO2
  have hnl : (P ++ A).length = n9 := by rw [List.length_append]; exact hn9.symm
  have hel : (E ++ List.replicate A.length en).length = (P ++ A).length := by simp [lE]
  have RO1 : Row W9 .i32 (some ⟨q1, 0, none⟩) (P ++ A) := Row.of_has hO1
  have RO2 : Row W9 .i64 (some ⟨q2, 0, none⟩) (E ++ List.replicate A.length en) := Row.of_has hO2
  have RP9 : Row W9 .i32 pa P := K9.row rP8 fun q hq => hgne q (qP q hq)
  have RE9 : Row W9 .i64 ea E := K9.row rE8 fun q hq => hgne q (qE q hq)
  have sM9 : RowO W9 .i64 a0 M := ⟨fun j z hj => by
    obtain ⟨b, off, ha, hc⟩ := sM.look j z hj
    have hbl := hgne b (block_lt_of_cell hc)
    obtain ⟨b', off', ha', hc'⟩ := sM8.look j z hj
    rw [ha] at ha'
    cases ha'
    exact ⟨b, off, ha, (World.cell?_of_block (K9.block b hbl.1 hbl.2)).trans hc'⟩⟩
  have S9 : Search W9 W6.heap.size (.slice ma M.length M.length) gen := I.S.kept (K9.block _ I.lp.1 I.lp.2)
  have B9 : Below w.heap.size w W9 := B8.trans ⟨K9.os, K9.tape, K9.output, K9.size, fun k hk => K9.block k (by have := B.size; omega) (by have := hgne k (by have := B.size; omega); exact this.2)⟩
  have RA9 : Row W9 .i64 ma (marksOf M gen y start bc bf) := by
    by_cases h0 : 0 < M.length
    · rw [I.ma h0]; exact Row.of_has (hM9 h0)
    · rw [List.eq_nil_of_length_eq_zero (show (marksOf M gen y start bc bf).length = 0 by rw [marksOf_len]; omega)]; exact Row.nil _ _ _
  rw [← hnl]
  obtain ⟨OP, hOP⟩ : ∃ OP, OP = P ++ A := ⟨_, rfl⟩
  obtain ⟨OE, hOE⟩ : ∃ OE, OE = E ++ List.replicate A.length en := ⟨_, rfl⟩
  have HOP : Hid (OP = P ++ A) := hOP
  rw [← hOP] at RO1 hnl hcnt hnew hold bO hel ⊢
  rw [← hOE] at RO2 hnew hold hel
  have hlP : P.length ≤ OP.length := by rw [hOP, List.length_append]; omega
  have hlO : OP.length ≤ 20000 := by rw [hOP, List.length_append]; omega
  clear hOP hOE hA hn9 hO1 hO2 hM9 hnl hAb hAl K9 I rP8 rE8 sM8 sM B8 h68 h6lt hgne hg1 hg2 hma b6 b7 b8 HH S7 rF rC rJ rP rE B bF bC hcm hJ hj hF hC
  have HX : Hid ((∀ x : Nat, x < M.length → countOf x (OP.drop P.length) = if reachB bc bf y start x = true ∧ ¬ M[x]?.getD 0 = gen then 1 else 0) ∧ (∀ x : Nat, x < M.length → (marksOf M gen y start bc bf)[x]?.getD 0 = if reachB bc bf y start x = true then gen else M[x]?.getD 0) ∧
    (∀ j : Nat, P.length ≤ j → j < OP.length → OE[j]?.getD 0 = en ∧ 0 ≤ OP[j]?.getD 0 ∧ OP[j]?.getD 0 < M.length) ∧ (∀ j : Nat, j < P.length → OP[j]?.getD 0 = P[j]?.getD 0 ∧ OE[j]?.getD 0 = E[j]?.getD 0) ∧ (∀ j : Nat, -2147483648 ≤ OP[j]?.getD 0 ∧ OP[j]?.getD 0 ≤ 2147483647) ∧ OE.length = OP.length ∧ E.length = P.length) := ⟨hcnt, hmrk, hnew, hold, bO, hel, lE⟩
  clear hcnt hmrk hnew hold bO hel lE hfm hcm' bP hbc hbf
  go_wp2_with fail
  refine (searchMarks_any W6.heap.size _ gen W9 S9).mono ?_
  rintro e w' ⟨rfl, hw'⟩
  rw [hw']
  clear hw' w'
  go_wp2_with fail
  refine (prefix_any (some ⟨q1, 0, none⟩) (some ⟨q2, 0, none⟩) pa ea OP.length OP.length pc ec OP OE P E W9 (by omega) HX.out.2.2.2.2.2.1 HX.out.2.2.2.2.2.2 hlP (fun j hj => (HX.out.2.2.2.1 j hj).1) (fun j hj => (HX.out.2.2.2.1 j hj).2) RO1 RO2 RP9 RE9).mono ?_
  rintro e W10 ⟨rfl, nq, hW10⟩
  have F1 : RowO W10 .i64 a0 M ∧ Row W10 .i32 (some ⟨q1, 0, none⟩) OP ∧ Row W10 .i64 (some ⟨q2, 0, none⟩) OE ∧ Row W10 .i64 ma (marksOf M gen y start bc bf) ∧ Below w.heap.size w W10 := by
    rw [hW10]; exact ⟨⟨sM9.look⟩, RO1.drewN nq, RO2.drewN nq, RA9.drewN nq, below_drewN' B9 nq⟩
  clear hW10 sM9 RO1 RO2 RA9 B9 RP9 RE9 S9
  go_upto_if 224 with fail
  go_step
  go_step
  go_step
  go_step
  obtain ⟨hcnt, hmrk, hnew, hold, bO, hel, lE⟩ := HX.out
  exact law3_C a0 pa ma c0 pc q1 q2 M (marksOf M gen y start bc bf) P OP OE gen start y en bc bf w W10 F1.2.2.2.2 F1.1 F1.2.1 F1.2.2.1 hel F1.2.2.2.1 lM (marksOf_len _ _ _ _ _ _) hlO hlP (by omega) (by omega) bO hnew hcnt hmrk _ _ _ _ _ _ _ _ _ _ _ _ _ _ _ _ _ _ _ _ _ _ _ _ _ _ _ _ _ _ _ _ _ _ _ _ _ _ _ _ _ _ _ _ _ _ _ _ _ _ _ _ _ _ _ _ _ _ _ _ _ _ _ _ _ _ _ _ _ _ _ _ _ _ _ _ _ _ _ _ _ _ _ _ _ _ _ _ _ _ _ _ _ _ _ _ _ _ _ _ _ _ _ _ _ _ _ _ _ _ _ _ _ _ _ _ _ _ _ _ _ _ _ _ _ _ _ _ _ _ _ _ _ _ _ _ _ _ _ _ _ _ _ _ _ _ _ _ _ _ _ _ _ _ _ _ _ _ _ _ _ _ _ _ _ _ _ _ _ _ _ _ _ _ _ _ _ _ _ _ _ _ _ _ _ _ _ _ _ _ _ _ _ _ _ _ _ _ _
end Go.Proofs.Qxb6613719aDoor
