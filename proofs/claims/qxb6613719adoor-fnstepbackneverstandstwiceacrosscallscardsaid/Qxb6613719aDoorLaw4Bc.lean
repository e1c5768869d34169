import Derived.Test.Qxb6613719aDoorLaw4Bd
namespace Go.Proofs.Qxb6613719aDoor
open Go.RowKit
set_option linter.unusedVariables false

theorem plain4 (M : List Int) (gen start y1 y2 : Int) (c1 f1 c2 f2 : Bool) (hc1 : c1 = true → 0 ≤ y1 - 1 ∧ y1 - 1 < M.length) (hf1 : f1 = true → 0 ≤ start ∧ start < M.length)
    (hc2 : c2 = true → 0 ≤ y2 - 1 ∧ y2 - 1 < M.length) (hf2 : f2 = true → 0 ≤ start ∧ start < M.length) :
    addsOf (marksOf (marksOf M gen y1 start c1 f1) gen y2 start c2 f2) gen y1 start c1 f1 = [] ∧
    (∀ x : Nat, x < M.length → countOf x (addsOf (marksOf M gen y1 start c1 f1) gen y2 start c2 f2) = if reachB c2 f2 y2 start x = true ∧ reachB c1 f1 y1 start x = false ∧ ¬ M[x]?.getD 0 = gen then 1 else 0) ∧
    (∀ x : Nat, x < M.length → (marksOf (marksOf (marksOf M gen y1 start c1 f1) gen y2 start c2 f2) gen y1 start c1 f1)[x]?.getD 0 = if reachB c1 f1 y1 start x = true ∨ reachB c2 f2 y2 start x = true then gen else M[x]?.getD 0) ∧
    (∀ z ∈ addsOf (marksOf M gen y1 start c1 f1) gen y2 start c2 f2, 0 ≤ z ∧ z < (M.length : Int)) := by
  obtain ⟨M1, h1⟩ : ∃ M1, M1 = marksOf M gen y1 start c1 f1 := ⟨_, rfl⟩
  have l1 : M1.length = M.length := by rw [h1]; exact marksOf_len _ _ _ _ _ _
  have m1 : ∀ x : Nat, x < M.length → M1[x]?.getD 0 = if reachB c1 f1 y1 start x = true then gen else M[x]?.getD 0 := fun x hx => by rw [h1]; exact marks_at M gen y1 start c1 f1 x hx hc1 hf1
  rw [← h1]
  clear h1
  obtain ⟨M2, h2⟩ : ∃ M2, M2 = marksOf M1 gen y2 start c2 f2 := ⟨_, rfl⟩
  have l2 : M2.length = M.length := by rw [h2, marksOf_len]; exact l1
  have m2 : ∀ x : Nat, x < M.length → M2[x]?.getD 0 = if reachB c2 f2 y2 start x = true then gen else M1[x]?.getD 0 := fun x hx => by rw [h2]; exact marks_at M1 gen y2 start c2 f2 x (by rw [l1]; exact hx) (by rw [l1]; exact hc2) (by rw [l1]; exact hf2)
  rw [← h2]
  clear h2
  have m12 : ∀ x : Nat, x < M.length → M2[x]?.getD 0 = if reachB c1 f1 y1 start x = true ∨ reachB c2 f2 y2 start x = true then gen else M[x]?.getD 0 := fun x hx => by
    rw [m2 x hx, m1 x hx]
    cases reachB c1 f1 y1 start x <;> cases reachB c2 f2 y2 start x <;> simp
  refine ⟨?_, ?_, ?_, ?_⟩
  · exact adds_nil M2 gen y1 start c1 f1 (by rw [l2]; exact hc1) (by rw [l2]; exact hf1) fun x hx hr => by
      rw [m12 x (by omega), if_pos (Or.inl hr)]
  · intro x hx
    rw [count_adds M1 gen y2 start c2 f2 x (by omega) (by rw [l1]; exact hc2) (by rw [l1]; exact hf2), m1 x hx]
    cases reachB c1 f1 y1 start x <;> cases reachB c2 f2 y2 start x <;> simp
  · intro x hx
    rw [marks_at M2 gen y1 start c1 f1 x (by omega) (by rw [l2]; exact hc1) (by rw [l2]; exact hf1), m12 x hx]
    cases reachB c1 f1 y1 start x <;> cases reachB c2 f2 y2 start x <;> simp
  · intro z hz
    have := adds_bd M1 gen y2 start c2 f2 (by rw [l1]; exact hc2) (by rw [l1]; exact hf2) z hz
    rw [l1] at this
    exact this
set_option maxRecDepth 1000000 in
set_option maxHeartbeats 4000000 in
theorem law4_B4c (a0 fa ca ja pa ea : Option Addr) (c0 fc cc jc pc ec : Nat) (M F C J P E : List Int) (gen start en en2 : Int) (y1 y2 : Nat) (w W : World) (B : Below w.heap.size w W)
    (sM : RowO W .i64 a0 M) (nM : a0 = none → M.length = 0) (rF : Row W .u64 fa F) (rC : Row W .u64 ca C) (rJ : Row W .i32 ja J) (rP : Row W .i32 pa P) (rE : Row W .i64 ea E)
    (qF : ∀ q, fa = some ⟨q, 0, none⟩ → q < W.heap.size) (qC : ∀ q, ca = some ⟨q, 0, none⟩ → q < W.heap.size) (qJ : ∀ q, ja = some ⟨q, 0, none⟩ → q < W.heap.size)
    (qP : ∀ q, pa = some ⟨q, 0, none⟩ → q < W.heap.size) (qE : ∀ q, ea = some ⟨q, 0, none⟩ → q < W.heap.size)
    (bF : ∀ j : Nat, 0 ≤ F[j]?.getD 0 ∧ F[j]?.getD 0 ≤ 18446744073709551615) (bC : ∀ j : Nat, 0 ≤ C[j]?.getD 0 ∧ C[j]?.getD 0 ≤ 18446744073709551615) (bP : ∀ j : Nat, -2147483648 ≤ P[j]?.getD 0 ∧ P[j]?.getD 0 ≤ 2147483647)
    (lM : M.length ≤ 16384) (lP : P.length ≤ 16384) (lE : E.length = P.length) (hy1 : y1 < 16384) (hy2 : y2 < 16384)
    (hJ1 : y1 < J.length) (hj1 : J[y1]?.getD 0 < 0) (hF1 : y1 / 64 < F.length) (hC1 : 0 < y1 → (y1 - 1) / 64 < C.length)
    (hJ2 : y2 < J.length) (hj2 : J[y2]?.getD 0 < 0) (hF2 : y2 / 64 < F.length) (hC2 : 0 < y2 → (y2 - 1) / 64 < C.length)
    (hcm1 : chainB C y1 = true → (y1 : Int) - 1 < M.length) (hfm1 : bitAt F y1 = true → 0 ≤ start ∧ start < M.length)
    (hcm2 : chainB C y2 = true → (y2 : Int) - 1 < M.length) (hfm2 : bitAt F y2 = true → 0 ≤ start ∧ start < M.length)
    (u24 u25 u26 u27 u28 u29 u54 u55 u56 u57 u58 u59 u60 u61 u62 u63 u64 u65 u66 u67 u68 u69 u70 u71 u72 u73 u74 u75 u76 u77 u78 u79 u80 u81 u82 u83 u84 u85 u86 u87 u88 u89 u90 u91 u92 u93 u94 u95 u96 u97 u98 u99 u100 u101 u102 u103 u104 u105 u106 u107 u108 u109 u110 u111 u112 u113 u114 u115 u116 u117 u118 u119 u120 u121 u122 u123 u124 u125 u126 u127 u128 u129 u130 u131 u132 u133 u134 u135 u136 u137 u138 u139 u140 u141 u142 u143 u144 u145 u146 u147 u148 u149 u150 u151 u152 u153 u154 u155 u156 u157 u158 u159 u160 u161 u162 u163 u164 u165 u166 u167 u168 u169 u170 u171 u172 u173 u174 u175 u176 u177 u178 u179 u180 u181 u182 u183 u184 u185 u186 u187 u188 u189 u190 u191 u192 u193 u194 u195 u196 u197 u198 u199 u200 u201 u202 u203 u204 u205 u206 u207 u208 u209 u210 u211 u212 u213 u214 u215 u216 u217 u218 u219 u220 u221 u222 u223 u224 u225 u226 u227 u228 u229 u230 u231 u232 u233 u234 u235 u236 u237 u238 u239 u240 u241 u242 u243 u244 u245 u246 u247 u248 u249 u250 u251 u252 u253 u254 u255 u256 u257 u258 u259 u260 u261 u262 u263 : Value) :
    Code.wp Tryd.prog (seqTail 23 (Tryd.f4.body.getD .skip)) (bodyPost Tryd.prog Tryd.f4 (fun e w' => e = .returned (.bool true) ∧ Below w.heap.size w w'))
      ⟨(.slice a0 M.length c0 :: .int .i64 gen :: .int .i64 start :: .slice fa F.length fc :: .slice ca C.length cc :: .slice ja J.length jc :: .slice pa P.length pc :: .slice ea P.length ec :: .int .i32 y1 :: .int .i64 en :: .int .i32 y2 :: .int .i64 en2 :: undef :: undef :: undef :: undef :: undef :: undef :: undef :: undef :: undef :: undef :: undef :: undef :: u24 :: u25 :: u26 :: u27 :: u28 :: u29 :: .int .i64 y1 :: .int .i64 y2 :: .bool (chainB C y1) :: .bool (bitAt F y1) :: .bool (chainB C y2) :: .bool (bitAt F y2) :: undef :: undef :: undef :: undef :: undef :: undef :: undef :: undef :: undef :: undef :: undef :: undef :: undef :: undef :: undef :: undef :: undef :: undef :: u54 :: u55 :: u56 :: u57 :: u58 :: u59 :: u60 :: u61 :: u62 :: u63 :: u64 :: u65 :: u66 :: u67 :: u68 :: u69 :: u70 :: u71 :: u72 :: u73 :: u74 :: u75 :: u76 :: u77 :: u78 :: u79 :: u80 :: u81 :: u82 :: u83 :: u84 :: u85 :: u86 :: u87 :: u88 :: u89 :: u90 :: u91 :: u92 :: u93 :: u94 :: u95 :: u96 :: u97 :: u98 :: u99 :: u100 :: u101 :: u102 :: u103 :: u104 :: u105 :: u106 :: u107 :: u108 :: u109 :: u110 :: u111 :: u112 :: u113 :: u114 :: u115 :: u116 :: u117 :: u118 :: u119 :: u120 :: u121 :: u122 :: u123 :: u124 :: u125 :: u126 :: u127 :: u128 :: u129 :: u130 :: u131 :: u132 :: u133 :: u134 :: u135 :: u136 :: u137 :: u138 :: u139 :: u140 :: u141 :: u142 :: u143 :: u144 :: u145 :: u146 :: u147 :: u148 :: u149 :: u150 :: u151 :: u152 :: u153 :: u154 :: u155 :: u156 :: u157 :: u158 :: u159 :: u160 :: u161 :: u162 :: u163 :: u164 :: u165 :: u166 :: u167 :: u168 :: u169 :: u170 :: u171 :: u172 :: u173 :: u174 :: u175 :: u176 :: u177 :: u178 :: u179 :: u180 :: u181 :: u182 :: u183 :: u184 :: u185 :: u186 :: u187 :: u188 :: u189 :: u190 :: u191 :: u192 :: u193 :: u194 :: u195 :: u196 :: u197 :: u198 :: u199 :: u200 :: u201 :: u202 :: u203 :: u204 :: u205 :: u206 :: u207 :: u208 :: u209 :: u210 :: u211 :: u212 :: u213 :: u214 :: u215 :: u216 :: u217 :: u218 :: u219 :: u220 :: u221 :: u222 :: u223 :: u224 :: u225 :: u226 :: u227 :: u228 :: u229 :: u230 :: u231 :: u232 :: u233 :: u234 :: u235 :: u236 :: u237 :: u238 :: u239 :: u240 :: u241 :: u242 :: u243 :: u244 :: u245 :: u246 :: u247 :: u248 :: u249 :: u250 :: u251 :: u252 :: u253 :: u254 :: u255 :: u256 :: u257 :: u258 :: u259 :: u260 :: u261 :: u262 :: u263 :: undef :: undef :: undef :: undef :: undef :: undef :: undef :: undef :: undef :: undef :: undef :: undef :: undef :: undef :: undef :: undef :: undef :: undef :: undef :: undef :: undef :: undef :: undef :: undef :: undef :: undef :: undef :: undef :: undef :: undef :: undef :: undef :: undef :: undef :: undef :: undef :: undef :: undef :: undef :: undef :: undef :: undef :: undef :: undef :: undef :: undef :: undef :: undef :: undef :: undef :: undef :: undef :: undef :: undef :: undef :: undef :: undef :: undef :: undef :: undef :: undef :: undef :: undef :: undef :: undef :: undef :: undef :: undef :: undef :: undef :: undef :: undef :: undef :: undef :: undef :: undef :: undef :: undef :: undef :: undef :: undef :: undef :: undef :: undef :: undef :: undef :: undef :: undef :: undef :: undef :: undef :: undef :: undef :: undef :: undef :: undef :: undef :: undef :: undef :: undef :: undef :: undef :: undef :: undef :: undef :: undef :: undef :: undef :: undef :: undef :: undef :: undef :: undef :: undef :: undef :: undef :: undef :: undef :: undef :: undef :: undef :: undef :: undef :: undef :: undef :: undef :: undef :: undef :: undef :: undef :: undef :: undef :: undef :: undef :: undef :: undef :: undef :: undef :: undef :: undef :: undef :: undef :: undef :: undef :: undef :: undef :: undef :: undef :: undef :: undef :: undef :: undef :: undef :: undef :: undef :: undef :: undef :: undef :: undef :: undef :: undef :: undef :: undef :: undef :: undef :: undef :: undef :: undef :: undef :: undef :: undef :: undef :: undef :: undef :: undef :: undef :: undef :: undef :: undef :: undef :: undef :: undef :: undef :: undef :: undef :: undef :: undef :: undef :: undef :: undef :: undef :: undef :: undef :: undef :: undef :: undef :: undef :: undef :: undef :: undef :: undef :: undef :: undef :: undef :: undef :: undef :: undef :: undef :: undef :: undef :: undef :: undef :: undef :: undef :: undef :: undef :: undef :: undef :: undef :: undef :: undef :: undef :: undef :: undef :: undef :: undef :: undef :: undef :: undef :: List.nil).toArray, []⟩ W := by
  conv => arg 2; whnf
  have HH : Hid ((∀ j : Nat, 0 ≤ F[j]?.getD 0 ∧ F[j]?.getD 0 ≤ 18446744073709551615) ∧ (∀ j : Nat, 0 ≤ C[j]?.getD 0 ∧ C[j]?.getD 0 ≤ 18446744073709551615) ∧ (∀ j : Nat, -2147483648 ≤ P[j]?.getD 0 ∧ P[j]?.getD 0 ≤ 2147483647) ∧ E.length = P.length) := ⟨bF, bC, bP, lE⟩
  have HJ1 : Hid (y1 < J.length ∧ J[y1]?.getD 0 < 0 ∧ y1 / 64 < F.length ∧ (0 < y1 → (y1 - 1) / 64 < C.length) ∧ (chainB C y1 = true → (y1 : Int) - 1 < M.length) ∧ (bitAt F y1 = true → 0 ≤ start ∧ start < M.length)) := ⟨hJ1, hj1, hF1, hC1, hcm1, hfm1⟩
  have HJ2 : Hid (y2 < J.length ∧ J[y2]?.getD 0 < 0 ∧ y2 / 64 < F.length ∧ (0 < y2 → (y2 - 1) / 64 < C.length) ∧ (chainB C y2 = true → (y2 : Int) - 1 < M.length) ∧ (bitAt F y2 = true → 0 ≤ start ∧ start < M.length)) := ⟨hJ2, hj2, hF2, hC2, hcm2, hfm2⟩
  clear bF bC bP lE hJ1 hj1 hF1 hC1 hcm1 hfm1 hJ2 hj2 hF2 hC2 hcm2 hfm2
  go_wp2_with fail
  refine (clone_any a0 c0 M W lM sM nM).mono ?_
  rintro e W6 ⟨ma, rfl, hma, b6⟩
  go_wp2_with fail
  refine (newSearch_any ma M.length M.length gen W6).mono ?_
  rintro e W7 ⟨rfl, S7, z7, b7⟩
  have g7 : W6.heap.size < W7.heap.size := by omega
  clear z7
  go_wp2_with fail
  refine (newTable_any start fa ca ja F.length fc C.length cc J.length jc W7).mono ?_
  rintro e W8 ⟨rfl, T8, z8, b8⟩
  have g8 : W7.heap.size < W8.heap.size := by omega
  clear z8
  have hs6 := b6.size
  have h68 : Below W.heap.size W W8 := b6.trans ((b7.mono hs6).trans (b8.mono (by omega)))
  have h6lt : 0 < M.length → W.heap.size < W6.heap.size := fun h0 => (hma h0).2.lt
  have I8 : Sta W.heap.size W6.heap.size W7.heap.size W8 ma M.length gen start M F C J fa ca ja fc cc jc :=
    ⟨S7.kept (b8.block _ (by omega)), T8, rfl, fun h0 => (hma h0).1, fun h0 => ((hma h0).2.below b7 (h6lt h0)).below b8 (by have := h6lt h0; omega), rF.below h68, rC.below h68, rJ.below h68, HH.out.1, HH.out.2.1, qF, qC, qJ, by omega,
      fun h0 => by have := h6lt h0; omega, fun h0 => by omega, lM⟩
  obtain ⟨N, hN⟩ : ∃ N, N = W.heap.size := ⟨_, rfl⟩
  obtain ⟨ps, hps⟩ : ∃ ps, ps = W6.heap.size := ⟨_, rfl⟩
  obtain ⟨tb, htb⟩ : ∃ tb, tb = W7.heap.size := ⟨_, rfl⟩
  have hN8 : N < W8.heap.size := by omega
  have rP8 := rP.below h68
  have rE8 := rE.below h68
  have sM8 := sM.below h68
  have B8 : Below w.heap.size w W8 := B.trans (h68.mono B.size)
  have hwN : w.heap.size ≤ N := by rw [hN]; exact B.size
  have qM : ∀ (b off : Nat), M.length ≠ 0 → a0 = some ⟨b, off, none⟩ → b < N := fun b off hne ha => by
    have h0 : 0 < M.length := by omega
    obtain ⟨b', off', ha', hc'⟩ := sM.look 0 _ (getD_some h0)
    rw [ha] at ha'
    cases ha'
    rw [hN]; exact block_lt_of_cell hc'
  rw [← hN] at qP qE I8
  rw [← hps, ← htb] at I8
  rw [← hps, ← htb]
  have HPL : P.length ≤ 16384 := lP
  clear S7 T8 rF rC rJ rP rE sM nM b6 b7 b8 hma h68 h6lt qF qC qJ hs6 g7 g8 B hN hps htb W6 W7 W
  have HZ := I8.call pa ea pc ec y1 en P E HH.out.2.2.2.symm (by omega) rP8 rE8 hy1 HJ1.out.1 HJ1.out.2.1 HJ1.out.2.2.1 HJ1.out.2.2.2.1 HJ1.out.2.2.2.2.1 HJ1.out.2.2.2.2.2
  have HI8 : Hid (Sta N ps tb W8 ma M.length gen start M F C J fa ca ja fc cc jc) := I8
  clear I8
  go_wp2_with fail
  refine HZ.mono ?_
  rintro e W9 ⟨q1, q3, O1, E1, hO1, hE1, rfl, g1, g3, k1, k3, rO1, rE1, I9, K9⟩
  clear HZ
  have rP9 := K9.row rP8 fun q hq => ⟨by have := qP q hq; omega, by have := qP q hq; omega⟩
  have rE9 := K9.row rE8 fun q hq => ⟨by have := qE q hq; omega, by have := qE q hq; omega⟩
  have sM9 : RowO W9 .i64 a0 M := ⟨fun j z hj => by
    obtain ⟨b, off, ha, hc⟩ := sM8.look j z hj
    have hbl := qM b off (by intro h; rw [List.eq_nil_of_length_eq_zero h] at hj; simp at hj) ha
    exact ⟨b, off, ha, (World.cell?_of_block (K9.block b (by omega) (by omega))).trans hc⟩⟩
  have B9 : Below w.heap.size w W9 := B8.trans ⟨K9.os, K9.tape, K9.output, K9.size, fun k hk => K9.block k (by omega) (by omega)⟩
  have hs9 := K9.size
  clear K9 rP8 rE8 sM8 B8 HI8
  obtain ⟨A1, hA1⟩ : ∃ A1, A1 = addsOf M gen y1 start (chainB C y1) (bitAt F y1) := ⟨_, rfl⟩
  rw [← hA1] at hO1 hE1
  have hA1l : A1.length ≤ 2 := by rw [hA1]; exact addsOf_le _ _ _ _ _ _
  have lO1 : O1.length = P.length + A1.length := by rw [hO1, List.length_append]
  have lE1 : E1.length = O1.length := by rw [hE1, lO1, List.length_append, List.length_replicate, HH.out.2.2.2]
  have HO1 : Hid (O1 = P ++ A1 ∧ E1 = E ++ List.replicate A1.length en ∧ A1 = addsOf M gen y1 start (chainB C y1) (bitAt F y1)) := ⟨hO1, hE1, hA1⟩
  clear hO1 hE1 hA1
  have HZ := I9.call (some ⟨q1, 0, none⟩) (some ⟨q3, 0, none⟩) O1.length O1.length y2 en2 O1 E1 lE1.symm (by omega) rO1 rE1 hy2 HJ2.out.1 HJ2.out.2.1 HJ2.out.2.2.1 HJ2.out.2.2.2.1 HJ2.out.2.2.2.2.1 HJ2.out.2.2.2.2.2
  have HL1 : Hid (O1.length = P.length + A1.length ∧ E1.length = O1.length) := ⟨lO1, lE1⟩
  clear lO1 lE1 I9
  go_wp2_with fail
  refine HZ.mono ?_
  rintro e W10 ⟨q2, q4, O2, E2, hO2, hE2, rfl, g2, g4, k2, k4, rO2, rE2, I10, K10⟩
  clear HZ
  have rP10 := K10.row rP9 fun q hq => ⟨by have := qP q hq; omega, by have := qP q hq; omega⟩
  have rE10 := K10.row rE9 fun q hq => ⟨by have := qE q hq; omega, by have := qE q hq; omega⟩
  have sM10 : RowO W10 .i64 a0 M := ⟨fun j z hj => by
    obtain ⟨b, off, ha, hc⟩ := sM9.look j z hj
    have hbl := qM b off (by intro h; rw [List.eq_nil_of_length_eq_zero h] at hj; simp at hj) ha
    exact ⟨b, off, ha, (World.cell?_of_block (K10.block b (by omega) (by omega))).trans hc⟩⟩
  have B10 : Below w.heap.size w W10 := B9.trans ⟨K10.os, K10.tape, K10.output, K10.size, fun k hk => K10.block k (by omega) (by omega)⟩
  have rO1' := K10.row rO1 fun q hq => by cases hq; omega
  have rE1' := K10.row rE1 fun q hq => by cases hq; omega
  have hs10 := K10.size
  clear K10 rP9 rE9 sM9 B9 rO1 rE1
  obtain ⟨A2, hA2⟩ : ∃ A2, A2 = addsOf (marksOf M gen y1 start (chainB C y1) (bitAt F y1)) gen y2 start (chainB C y2) (bitAt F y2) := ⟨_, rfl⟩
  rw [← hA2] at hO2 hE2
  have hA2l : A2.length ≤ 2 := by rw [hA2]; exact addsOf_le _ _ _ _ _ _
  have lO2 : O2.length = O1.length + A2.length := by rw [hO2, List.length_append]
  have lE2 : E2.length = O2.length := by rw [hE2, lO2, List.length_append, List.length_replicate, HL1.out.2]
  have HO2 : Hid (O2 = O1 ++ A2 ∧ E2 = E1 ++ List.replicate A2.length en2 ∧ A2 = addsOf (marksOf M gen y1 start (chainB C y1) (bitAt F y1)) gen y2 start (chainB C y2) (bitAt F y2)) := ⟨hO2, hE2, hA2⟩
  clear hO2 hE2 hA2
  have HZ := I10.call (some ⟨q2, 0, none⟩) (some ⟨q4, 0, none⟩) O2.length O2.length y1 en O2 E2 lE2.symm (by have := HL1.out.1; omega) rO2 rE2 hy1 HJ1.out.1 HJ1.out.2.1 HJ1.out.2.2.1 HJ1.out.2.2.2.1 HJ1.out.2.2.2.2.1 HJ1.out.2.2.2.2.2
  have HL2 : Hid (O2.length = O1.length + A2.length ∧ E2.length = O2.length) := ⟨lO2, lE2⟩
  clear lO2 lE2 I10
  go_wp2_with fail
  refine HZ.mono ?_
  rintro e W11 ⟨q5, q6, O3, E3, hO3, hE3, rfl, g5, g6, k5, k6, rO3, rE3, I11, K11⟩
  clear HZ
  obtain ⟨c1, hc1⟩ : ∃ c1, c1 = chainB C y1 := ⟨_, rfl⟩
  obtain ⟨c2, hc2⟩ : ∃ c2, c2 = chainB C y2 := ⟨_, rfl⟩
  obtain ⟨f1, hf1⟩ : ∃ f1, f1 = bitAt F y1 := ⟨_, rfl⟩
  obtain ⟨f2, hf2⟩ : ∃ f2, f2 = bitAt F y2 := ⟨_, rfl⟩
  have HJ1' := HJ1.out
  have HJ2' := HJ2.out
  have HO1' := HO1.out
  have HO2' := HO2.out
  rw [← hc1, ← hf1] at HJ1' HO1' hO3 hE3 I11
  rw [← hc2, ← hf2] at HJ2' HO2' hO3 hE3 I11
  rw [← hc1, ← hf1] at HO2'
  rw [← hc1, ← hf1, ← hc2, ← hf2]
  have hp1 : c1 = true → 0 ≤ (y1 : Int) - 1 ∧ (y1 : Int) - 1 < M.length := fun h => ⟨by have := chain_pos4 (hc1 ▸ h); omega, HJ1'.2.2.2.2.1 h⟩
  have hp2 : c2 = true → 0 ≤ (y2 : Int) - 1 ∧ (y2 : Int) - 1 < M.length := fun h => ⟨by have := chain_pos4 (hc2 ▸ h); omega, HJ2'.2.2.2.2.1 h⟩
  obtain ⟨p1, p2, p3, p4⟩ := plain4 M gen start y1 y2 c1 f1 c2 f2 hp1 HJ1'.2.2.2.2.2 hp2 HJ2'.2.2.2.2.2
  rw [p1] at hO3 hE3
  rw [List.append_nil] at hO3
  have hE3' : E3 = E2 := by rw [hE3]; simp
  subst hO3 hE3'
  have rP11 := K11.row rP10 fun q hq => ⟨by have := qP q hq; omega, by have := qP q hq; omega⟩
  have rE11 := K11.row rE10 fun q hq => ⟨by have := qE q hq; omega, by have := qE q hq; omega⟩
  have sM11 : RowO W11 .i64 a0 M := ⟨fun j z hj => by
    obtain ⟨b, off, ha, hc⟩ := sM10.look j z hj
    have hbl := qM b off (by intro h; rw [List.eq_nil_of_length_eq_zero h] at hj; simp at hj) ha
    exact ⟨b, off, ha, (World.cell?_of_block (K11.block b (by omega) (by omega))).trans hc⟩⟩
  have B11 : Below w.heap.size w W11 := B10.trans ⟨K11.os, K11.tape, K11.output, K11.size, fun k hk => K11.block k (by omega) (by omega)⟩
  have rO1'' := K11.row rO1' fun q hq => by cases hq; omega
  have rE1'' := K11.row rE1' fun q hq => by cases hq; omega
  have rO2'' := K11.row rO2 fun q hq => by cases hq; omega
  have rE2'' := K11.row rE2 fun q hq => by cases hq; omega
  obtain ⟨hO1, hE1, hA1⟩ := HO1'
  obtain ⟨hO2, hE2, hA2⟩ := HO2'
  obtain ⟨bF, bC, bP, lE⟩ := HH.out
  rw [← hA2] at p2 p4
  have hA1b : ∀ z ∈ A1, 0 ≤ z ∧ z < (M.length : Int) := by rw [hA1]; exact adds_bd M gen y1 start c1 f1 hp1 HJ1'.2.2.2.2.2
  have n1 := news P E A1 en M.length lE hA1b
  have d1 := olds P E A1 en lE
  have b1 := bound_append P A1 M.length lM bP hA1b
  rw [← hO1, ← hE1] at n1 d1
  rw [← hO1] at b1
  have n2 := news O1 E1 A2 en2 M.length HL1.out.2 p4
  have d2 := olds O1 E1 A2 en2 HL1.out.2
  have b2 := bound_append O1 A2 M.length lM b1 p4
  rw [← hO2, ← hE2] at n2 d2
  rw [← hO2] at b2
  have q1c : ∀ x : Nat, x < M.length → countOf x (O1.drop P.length) = if reachB c1 f1 y1 start x = true ∧ ¬ M[x]?.getD 0 = gen then 1 else 0 := fun x hx => by
    rw [hO1, List.drop_left, hA1]; exact count_adds M gen y1 start c1 f1 x hx hp1 HJ1'.2.2.2.2.2
  have q2c : ∀ x : Nat, x < M.length → countOf x (O3.drop O1.length) = if reachB c2 f2 y2 start x = true ∧ reachB c1 f1 y1 start x = false ∧ ¬ M[x]?.getD 0 = gen then 1 else 0 := fun x hx => by
    rw [hO2, List.drop_left]; exact p2 x hx
  have LL := law4_B4d a0 pa ea ma c0 pc ec q1 q2 q3 q4 q5 q6 ps M _ P E O1 O3 E1 E3 gen start y1 y2 en en2 c1 f1 c2 f2 w W11 B11 I11.S sM11 rO1'' rO2'' rE1'' rE2'' rO3 rE3 rP11 rE11 lE HL1.out.2 HL2.out.2 I11.row
    lM I11.lenM (by have := HL1.out.1; have := HL2.out.1; omega) (by have := HL1.out.1; omega) (by have := HL2.out.1; omega) (by omega) (by omega) (by omega) (by omega) b1 b2 d1 d2 n1 n2 q1c q2c p3
  clear HO1 HO2 HL1 HL2 HJ1 HJ2 HH HJ1' HJ2' hO1 hE1 hA1 hO2 hE2 hA2 bF bC bP lE n1 d1 b1 n2 d2 b2 q1c q2c p1 p2 p3 p4 rO1'' rE1'' rO2'' rE2'' rO2 rE2 rO1' rE1' rO3 rE3 rP11 rE11 sM11 B11 I11 K11 hp1 hp2 rP10 rE10 sM10 B10 hE3
  dsimp only
  iterate 19 go_step
  exact LL _ _ _ _ _ _ _ _ _ _ _ _ _ _ _ _ _ _ _ _ _ _ _ _ _ _ _ _ _ _ _ _ _ _ _ _ _ _ _ _ _ _ _ _ _ _ _ _ _ _ _ _ _ _ _ _ _ _ _ _ _ _ _ _ _ _ _ _ _ _ _ _ _ _ _ _ _ _ _ _ _ _ _ _ _ _ _ _ _ _ _ _ _ _ _ _ _ _ _ _ _ _ _ _ _ _ _ _ _ _ _ _ _ _ _ _ _ _ _ _ _ _ _ _ _ _ _ _ _ _ _ _ _ _ _ _ _ _ _ _ _ _ _ _ _ _ _ _ _ _ _ _ _ _ _ _ _ _ _ _ _ _ _ _ _ _ _ _ _ _ _ _ _ _ _ _ _ _ _ _ _ _ _ _ _ _ _ _ _ _ _ _ _ _ _ _ _ _ _ _ _ _ _ _ _ _ _ _ _ _ _ _ _ _ _ _ _ _ _ _ _ _ _ _ _ _ _ _ _ _ _ _ _ _ _ _ _ _ _ _ _ _ _ _ _ _ _ _ _ _ _ _ _ _ _ _ _ _ _ _ _ _ _
end Go.Proofs.Qxb6613719aDoor
