import Derived.Test.Qxb6613719aDoorLawB2
namespace Go.Proofs.Qxb6613719aDoor
open Go.RowKit
set_option linter.unusedVariables false
set_option maxRecDepth 1000000 in
set_option maxHeartbeats 4000000 in
theorem law3_B1b (a0 fa ca ja pa ea : Option Addr) (c0 fc cc jc pc ec : Nat) (M F C J P E : List Int) (gen start en : Int) (y : Nat) (w W : World) (B : Below w.heap.size w W)
    (sM : RowO W .i64 a0 M) (nM : a0 = none → M.length = 0) (rF : Row W .u64 fa F) (rC : Row W .u64 ca C) (rJ : Row W .i32 ja J) (rP : Row W .i32 pa P) (rE : Row W .i64 ea E)
    (qF : ∀ q, fa = some ⟨q, 0, none⟩ → q < W.heap.size) (qC : ∀ q, ca = some ⟨q, 0, none⟩ → q < W.heap.size) (qJ : ∀ q, ja = some ⟨q, 0, none⟩ → q < W.heap.size)
    (qP : ∀ q, pa = some ⟨q, 0, none⟩ → q < W.heap.size) (qE : ∀ q, ea = some ⟨q, 0, none⟩ → q < W.heap.size)
    (bF : ∀ j : Nat, 0 ≤ F[j]?.getD 0 ∧ F[j]?.getD 0 ≤ 18446744073709551615) (bC : ∀ j : Nat, 0 ≤ C[j]?.getD 0 ∧ C[j]?.getD 0 ≤ 18446744073709551615) (bP : ∀ j : Nat, -2147483648 ≤ P[j]?.getD 0 ∧ P[j]?.getD 0 ≤ 2147483647)
    (lM : M.length ≤ 16384) (lP : P.length ≤ 16384) (lE : E.length = P.length) (hy : y < 16384)
    (hJ : y < J.length) (hj : J[y]?.getD 0 < 0) (hF : y / 64 < F.length) (hC : 0 < y → (y - 1) / 64 < C.length)
    (u21 u22 u23 u24 u25 u40 u41 u42 u43 u44 u45 u46 u47 u48 u49 u50 u51 u52 u53 u54 u55 u56 u57 u58 u59 u60 u61 u62 u63 u64 u65 u66 u67 u68 u69 u70 u71 u72 u73 u74 u75 u76 u77 u78 u79 u80 u81 u82 u83 u84 u85 u86 u87 u88 u89 u90 u91 u92 u93 u94 u95 u96 u97 u98 u99 u100 u101 u102 u103 u104 u105 u106 u107 u108 u109 u110 u111 u112 u113 u114 u115 u116 u117 u118 u119 u120 u121 u122 u123 u124 u125 u126 u127 u128 u129 u130 u131 u132 u133 u134 u135 u136 u137 u138 u139 u140 u141 u142 u143 u144 u145 u146 u147 u148 u149 u150 u151 u152 u153 u154 u155 u156 u157 u158 u159 u160 u161 : Value) :
    Code.wp Tryd.prog (seqTail 13 (Tryd.f3.body.getD .skip)) (bodyPost Tryd.prog Tryd.f3 (fun e w' => e = .returned (.bool true) ∧ Below w.heap.size w w'))
      ⟨(.slice a0 M.length c0 :: .int .i64 gen :: .int .i64 start :: .slice fa F.length fc :: .slice ca C.length cc :: .slice ja J.length jc :: .slice pa P.length pc :: .slice ea P.length ec :: .int .i32 y :: .int .i64 en :: undef :: undef :: undef :: undef :: undef :: undef :: undef :: undef :: undef :: undef :: .bool false :: u21 :: u22 :: u23 :: u24 :: u25 :: .int .i64 y :: undef :: undef :: undef :: undef :: undef :: undef :: undef :: undef :: undef :: undef :: undef :: undef :: undef :: u40 :: u41 :: u42 :: u43 :: u44 :: u45 :: u46 :: u47 :: u48 :: u49 :: u50 :: u51 :: u52 :: u53 :: u54 :: u55 :: u56 :: u57 :: u58 :: u59 :: u60 :: u61 :: u62 :: u63 :: u64 :: u65 :: u66 :: u67 :: u68 :: u69 :: u70 :: u71 :: u72 :: u73 :: u74 :: u75 :: u76 :: u77 :: u78 :: u79 :: u80 :: u81 :: u82 :: u83 :: u84 :: u85 :: u86 :: u87 :: u88 :: u89 :: u90 :: u91 :: u92 :: u93 :: u94 :: u95 :: u96 :: u97 :: u98 :: u99 :: u100 :: u101 :: u102 :: u103 :: u104 :: u105 :: u106 :: u107 :: u108 :: u109 :: u110 :: u111 :: u112 :: u113 :: u114 :: u115 :: u116 :: u117 :: u118 :: u119 :: u120 :: u121 :: u122 :: u123 :: u124 :: u125 :: u126 :: u127 :: u128 :: u129 :: u130 :: u131 :: u132 :: u133 :: u134 :: u135 :: u136 :: u137 :: u138 :: u139 :: u140 :: u141 :: u142 :: u143 :: u144 :: u145 :: u146 :: u147 :: u148 :: u149 :: u150 :: u151 :: u152 :: u153 :: u154 :: u155 :: u156 :: u157 :: u158 :: u159 :: u160 :: u161 :: undef :: undef :: undef :: undef :: undef :: undef :: undef :: undef :: undef :: undef :: undef :: undef :: undef :: undef :: undef :: undef :: undef :: undef :: undef :: undef :: undef :: undef :: undef :: undef :: undef :: undef :: undef :: undef :: undef :: undef :: undef :: undef :: undef :: undef :: undef :: undef :: undef :: undef :: undef :: undef :: undef :: undef :: undef :: undef :: undef :: undef :: undef :: undef :: undef :: undef :: undef :: undef :: undef :: undef :: undef :: undef :: undef :: undef :: undef :: undef :: undef :: undef :: undef :: undef :: undef :: undef :: undef :: undef :: undef :: undef :: undef :: undef :: undef :: undef :: undef :: undef :: undef :: undef :: undef :: undef :: undef :: undef :: undef :: undef :: undef :: undef :: undef :: undef :: undef :: undef :: undef :: undef :: undef :: undef :: undef :: undef :: undef :: undef :: undef :: undef :: undef :: undef :: undef :: undef :: undef :: undef :: undef :: undef :: undef :: undef :: undef :: undef :: undef :: undef :: undef :: undef :: undef :: undef :: undef :: undef :: undef :: undef :: undef :: undef :: undef :: undef :: undef :: undef :: undef :: undef :: undef :: undef :: undef :: undef :: undef :: undef :: undef :: undef :: undef :: undef :: undef :: undef :: undef :: undef :: List.nil).toArray, []⟩ W := by
  conv => arg 2; whnf
  have HH : Hid ((∀ j : Nat, 0 ≤ F[j]?.getD 0 ∧ F[j]?.getD 0 ≤ 18446744073709551615) ∧ (∀ j : Nat, 0 ≤ C[j]?.getD 0 ∧ C[j]?.getD 0 ≤ 18446744073709551615) ∧ (∀ j : Nat, -2147483648 ≤ P[j]?.getD 0 ∧ P[j]?.getD 0 ≤ 2147483647) ∧ E.length = P.length ∧
    y < J.length ∧ J[y]?.getD 0 < 0 ∧ y / 64 < F.length ∧ (0 < y → (y - 1) / 64 < C.length)) := ⟨bF, bC, bP, lE, hJ, hj, hF, hC⟩
  clear bF bC bP lE hJ hj hF hC
  go_step
  go_step
  go_cut [27] from 162 to 169 (fun s wc => s = .bool (chainB C y) ∧ wc = W)
  case first =>
    by_cases h0 : 0 < y
    · obtain ⟨i1, hi1, hi2⟩ : ∃ i1 : Nat, (y : Int) - 1 = (i1 : Int) ∧ i1 = y - 1 := ⟨y - 1, by omega, rfl⟩
      have hC1 : i1 / 64 < C.length := by rw [hi2]; exact HH.out.2.2.2.2.2.2.2 h0
      have hi16 : i1 < 16384 := by omega
      have hyi : (0 : Int) < (y : Int) := by omega
      have d6 : decide ((0 : Int) < (y : Int)) = true := decide_eq_true (by omega)
      have d6' : decide (0 < y) = true := decide_eq_true h0
      have ech : chainB C y = bitAt C i1 := by
        unfold chainB
        rw [hi1, Int.toNat_natCast]
        simp [h0]
      have E1 : Hid (chainB C y = bitAt C i1) := ech
      clear ech hi2
      go_wp2_with fail
      refine (stepBit_any ca _ cc i1 C rfl hC1 (by omega) W HH.out.2.1 rC).mono ?_
      rintro e w' ⟨rfl, hw'⟩
      rw [hw']
      clear hw' w'
      go_wp2_with fail
      go_meet
      case rel => exact ⟨by rw [E1.out], rfl⟩
    · have d6 : decide ((0 : Int) < (y : Int)) = false := decide_eq_false (by omega)
      have d6' : decide (0 < y) = false := decide_eq_false h0
      have ech : chainB C y = false := by unfold chainB; rw [d6]; rfl
      have E1 : Hid (chainB C y = false) := ech
      clear ech
      go_wp2_with fail
      go_meet
      case rel => exact ⟨by rw [E1.out], rfl⟩
  case rest =>
    obtain ⟨rfl, hwc⟩ := hcut
    subst hwc
    rename World => W
    go_wp2_with fail
    refine (stepBit_any fa _ fc y F rfl HH.out.2.2.2.2.2.2.1 (by omega) W HH.out.1 rF).mono ?_
    rintro e w' ⟨rfl, hw'⟩
    rw [hw']
    clear hw' w'
    cases hbc : chainB C y
    · cases hbf : bitAt F y
      · have L := law3_B2 a0 fa ca ja pa ea c0 fc cc jc pc ec M F C J P E gen start en y w W B sM nM rF rC rJ rP rE qF qC qJ qP qE HH.out.1 HH.out.2.1 HH.out.2.2.1 lM lP HH.out.2.2.2.1 hy HH.out.2.2.2.2.1 HH.out.2.2.2.2.2.1 HH.out.2.2.2.2.2.2.1 HH.out.2.2.2.2.2.2.2 (fun h => absurd (hbc.symm.trans h) (by simp)) (fun h => absurd (hbf.symm.trans h) (by simp))
        rw [hbc, hbf] at L
        go_upto_if 191 with fail
        go_step
        go_step
        go_step
        go_step
        exact L _ _ _ _ _ _ _ _ _ _ _ _ _ _ _ _ _ _ _ _ _ _ _ _ _ _ _ _ _ _ _ _ _ _ _ _ _ _ _ _ _ _ _ _ _ _ _ _ _ _ _ _ _ _ _ _ _ _ _ _ _ _ _ _ _ _ _ _ _ _ _ _ _ _ _ _ _ _ _ _ _ _ _ _ _ _ _ _ _ _ _ _ _ _ _ _ _ _ _ _ _ _ _ _ _ _ _ _ _ _ _ _ _ _ _ _ _ _ _ _ _ _ _ _ _ _ _ _ _ _ _ _ _ _ _ _ _ _ _ _ _ _ _ _ _ _ _ _ _ _ _ _ _ _ _ _ _
      · by_cases hs : 0 ≤ start ∧ start < M.length
        · have e1 : decide (start < 0) = false := decide_eq_false (by omega)
          have e2 : decide ((M.length : Int) ≤ start) = false := decide_eq_false (by omega)
          have L := law3_B2 a0 fa ca ja pa ea c0 fc cc jc pc ec M F C J P E gen start en y w W B sM nM rF rC rJ rP rE qF qC qJ qP qE HH.out.1 HH.out.2.1 HH.out.2.2.1 lM lP HH.out.2.2.2.1 hy HH.out.2.2.2.2.1 HH.out.2.2.2.2.2.1 HH.out.2.2.2.2.2.2.1 HH.out.2.2.2.2.2.2.2 (fun h => absurd (hbc.symm.trans h) (by simp)) (fun _ => hs)
          rw [hbc, hbf] at L
          go_upto_if 191 with fail
          go_step
          go_step
          go_step
          go_step
          exact L _ _ _ _ _ _ _ _ _ _ _ _ _ _ _ _ _ _ _ _ _ _ _ _ _ _ _ _ _ _ _ _ _ _ _ _ _ _ _ _ _ _ _ _ _ _ _ _ _ _ _ _ _ _ _ _ _ _ _ _ _ _ _ _ _ _ _ _ _ _ _ _ _ _ _ _ _ _ _ _ _ _ _ _ _ _ _ _ _ _ _ _ _ _ _ _ _ _ _ _ _ _ _ _ _ _ _ _ _ _ _ _ _ _ _ _ _ _ _ _ _ _ _ _ _ _ _ _ _ _ _ _ _ _ _ _ _ _ _ _ _ _ _ _ _ _ _ _ _ _ _ _ _ _ _ _ _
        · by_cases hs0 : start < 0
          · have e1 : decide (start < 0) = true := decide_eq_true hs0
            go_wp2_with fail
            go_ret
            exact ⟨rfl, B⟩
          · have e1 : decide (start < 0) = false := decide_eq_false hs0
            have e2 : decide ((M.length : Int) ≤ start) = true := decide_eq_true (by omega)
            go_wp2_with fail
            go_ret
            exact ⟨rfl, B⟩
    · by_cases hm : (M.length : Int) ≤ (y : Int) - 1
      · have e3 : decide ((M.length : Int) ≤ (y : Int) - 1) = true := decide_eq_true hm
        have hy1 := chain_pos hbc
        go_wp2_with fail
        go_ret
        exact ⟨rfl, B⟩
      have e3 : decide ((M.length : Int) ≤ (y : Int) - 1) = false := decide_eq_false hm
      have hy1 := chain_pos hbc
      cases hbf : bitAt F y
      · have L := law3_B2 a0 fa ca ja pa ea c0 fc cc jc pc ec M F C J P E gen start en y w W B sM nM rF rC rJ rP rE qF qC qJ qP qE HH.out.1 HH.out.2.1 HH.out.2.2.1 lM lP HH.out.2.2.2.1 hy HH.out.2.2.2.2.1 HH.out.2.2.2.2.2.1 HH.out.2.2.2.2.2.2.1 HH.out.2.2.2.2.2.2.2 (fun _ => by omega) (fun h => absurd (hbf.symm.trans h) (by simp))
        rw [hbc, hbf] at L
        go_upto_if 191 with fail
        go_step
        go_step
        go_step
        go_step
        exact L _ _ _ _ _ _ _ _ _ _ _ _ _ _ _ _ _ _ _ _ _ _ _ _ _ _ _ _ _ _ _ _ _ _ _ _ _ _ _ _ _ _ _ _ _ _ _ _ _ _ _ _ _ _ _ _ _ _ _ _ _ _ _ _ _ _ _ _ _ _ _ _ _ _ _ _ _ _ _ _ _ _ _ _ _ _ _ _ _ _ _ _ _ _ _ _ _ _ _ _ _ _ _ _ _ _ _ _ _ _ _ _ _ _ _ _ _ _ _ _ _ _ _ _ _ _ _ _ _ _ _ _ _ _ _ _ _ _ _ _ _ _ _ _ _ _ _ _ _ _ _ _ _ _ _ _ _
      · by_cases hs : 0 ≤ start ∧ start < M.length
        · have e1 : decide (start < 0) = false := decide_eq_false (by omega)
          have e2 : decide ((M.length : Int) ≤ start) = false := decide_eq_false (by omega)
          have L := law3_B2 a0 fa ca ja pa ea c0 fc cc jc pc ec M F C J P E gen start en y w W B sM nM rF rC rJ rP rE qF qC qJ qP qE HH.out.1 HH.out.2.1 HH.out.2.2.1 lM lP HH.out.2.2.2.1 hy HH.out.2.2.2.2.1 HH.out.2.2.2.2.2.1 HH.out.2.2.2.2.2.2.1 HH.out.2.2.2.2.2.2.2 (fun _ => by omega) (fun _ => hs)
          rw [hbc, hbf] at L
          go_upto_if 191 with fail
          go_step
          go_step
          go_step
          go_step
          exact L _ _ _ _ _ _ _ _ _ _ _ _ _ _ _ _ _ _ _ _ _ _ _ _ _ _ _ _ _ _ _ _ _ _ _ _ _ _ _ _ _ _ _ _ _ _ _ _ _ _ _ _ _ _ _ _ _ _ _ _ _ _ _ _ _ _ _ _ _ _ _ _ _ _ _ _ _ _ _ _ _ _ _ _ _ _ _ _ _ _ _ _ _ _ _ _ _ _ _ _ _ _ _ _ _ _ _ _ _ _ _ _ _ _ _ _ _ _ _ _ _ _ _ _ _ _ _ _ _ _ _ _ _ _ _ _ _ _ _ _ _ _ _ _ _ _ _ _ _ _ _ _ _ _ _ _ _
        · by_cases hs0 : start < 0
          · have e1 : decide (start < 0) = true := decide_eq_true hs0
            go_wp2_with fail
            go_ret
            exact ⟨rfl, B⟩
          · have e1 : decide (start < 0) = false := decide_eq_false hs0
            have e2 : decide ((M.length : Int) ≤ start) = true := decide_eq_true (by omega)
            go_wp2_with fail
            go_ret
            exact ⟨rfl, B⟩
end Go.Proofs.Qxb6613719aDoor
