import Derived.Test.Qxb6613719aDoorLawB1b
namespace Go.Proofs.Qxb6613719aDoor
open Go.RowKit
set_option linter.unusedVariables false
set_option maxRecDepth 1000000 in
set_option maxHeartbeats 4000000 in
theorem law3_B1 (a0 fa ca ja pa ea : Option Addr) (c0 fc cc jc pc ec : Nat) (M F C J P E : List Int) (gen start en : Int) (pos : Int) (w W : World) (B : Below w.heap.size w W)
    (sM : RowO W .i64 a0 M) (nM : a0 = none → M.length = 0) (rF : Row W .u64 fa F) (rC : Row W .u64 ca C) (rJ : Row W .i32 ja J) (rP : Row W .i32 pa P) (rE : Row W .i64 ea E)
    (qF : ∀ q, fa = some ⟨q, 0, none⟩ → q < W.heap.size) (qC : ∀ q, ca = some ⟨q, 0, none⟩ → q < W.heap.size) (qJ : ∀ q, ja = some ⟨q, 0, none⟩ → q < W.heap.size)
    (qP : ∀ q, pa = some ⟨q, 0, none⟩ → q < W.heap.size) (qE : ∀ q, ea = some ⟨q, 0, none⟩ → q < W.heap.size)
    (bF : ∀ j : Nat, 0 ≤ F[j]?.getD 0 ∧ F[j]?.getD 0 ≤ 18446744073709551615) (bC : ∀ j : Nat, 0 ≤ C[j]?.getD 0 ∧ C[j]?.getD 0 ≤ 18446744073709551615) (bP : ∀ j : Nat, -2147483648 ≤ P[j]?.getD 0 ∧ P[j]?.getD 0 ≤ 2147483647)
    (lM : M.length ≤ 16384) (lF : F.length ≤ 4096) (lC : C.length ≤ 4096) (lJ : J.length ≤ 16384) (lP : P.length ≤ 16384) (lE : E.length = P.length) (hpos : -2147483648 ≤ pos ∧ pos ≤ 2147483647)
    (u21 u22 u23 u24 u25 u40 u41 u42 u43 u44 u45 u46 u47 u48 u49 u50 u51 u52 u53 u54 u55 u56 u57 u58 u59 u60 u61 u62 u63 u64 u65 u66 u67 u68 u69 u70 u71 u72 u73 u74 u75 u76 u77 u78 u79 u80 u81 u82 u83 u84 u85 u86 u87 u88 u89 u90 u91 u92 u93 u94 u95 u96 u97 u98 u99 u100 u101 u102 u103 u104 u105 u106 u107 u108 u109 u110 u111 u112 u113 u114 u115 u116 u117 u118 u119 u120 u121 u122 u123 u124 u125 u126 u127 u128 u129 : Value) :
    Code.wp Tryd.prog (seqTail 9 (Tryd.f3.body.getD .skip)) (bodyPost Tryd.prog Tryd.f3 (fun e w' => e = .returned (.bool true) ∧ Below w.heap.size w w'))
      ⟨(.slice a0 M.length c0 :: .int .i64 gen :: .int .i64 start :: .slice fa F.length fc :: .slice ca C.length cc :: .slice ja J.length jc :: .slice pa P.length pc :: .slice ea P.length ec :: .int .i32 pos :: .int .i64 en :: undef :: undef :: undef :: undef :: undef :: undef :: undef :: undef :: undef :: undef :: .bool false :: u21 :: u22 :: u23 :: u24 :: u25 :: undef :: undef :: undef :: undef :: undef :: undef :: undef :: undef :: undef :: undef :: undef :: undef :: undef :: undef :: u40 :: u41 :: u42 :: u43 :: u44 :: u45 :: u46 :: u47 :: u48 :: u49 :: u50 :: u51 :: u52 :: u53 :: u54 :: u55 :: u56 :: u57 :: u58 :: u59 :: u60 :: u61 :: u62 :: u63 :: u64 :: u65 :: u66 :: u67 :: u68 :: u69 :: u70 :: u71 :: u72 :: u73 :: u74 :: u75 :: u76 :: u77 :: u78 :: u79 :: u80 :: u81 :: u82 :: u83 :: u84 :: u85 :: u86 :: u87 :: u88 :: u89 :: u90 :: u91 :: u92 :: u93 :: u94 :: u95 :: u96 :: u97 :: u98 :: u99 :: u100 :: u101 :: u102 :: u103 :: u104 :: u105 :: u106 :: u107 :: u108 :: u109 :: u110 :: u111 :: u112 :: u113 :: u114 :: u115 :: u116 :: u117 :: u118 :: u119 :: u120 :: u121 :: u122 :: u123 :: u124 :: u125 :: u126 :: u127 :: u128 :: u129 :: undef :: undef :: undef :: undef :: undef :: undef :: undef :: undef :: undef :: undef :: undef :: undef :: undef :: undef :: undef :: undef :: undef :: undef :: undef :: undef :: undef :: undef :: undef :: undef :: undef :: undef :: undef :: undef :: undef :: undef :: undef :: undef :: undef :: undef :: undef :: undef :: undef :: undef :: undef :: undef :: undef :: undef :: undef :: undef :: undef :: undef :: undef :: undef :: undef :: undef :: undef :: undef :: undef :: undef :: undef :: undef :: undef :: undef :: undef :: undef :: undef :: undef :: undef :: undef :: undef :: undef :: undef :: undef :: undef :: undef :: undef :: undef :: undef :: undef :: undef :: undef :: undef :: undef :: undef :: undef :: undef :: undef :: undef :: undef :: undef :: undef :: undef :: undef :: undef :: undef :: undef :: undef :: undef :: undef :: undef :: undef :: undef :: undef :: undef :: undef :: undef :: undef :: undef :: undef :: undef :: undef :: undef :: undef :: undef :: undef :: undef :: undef :: undef :: undef :: undef :: undef :: undef :: undef :: undef :: undef :: undef :: undef :: undef :: undef :: undef :: undef :: undef :: undef :: undef :: undef :: undef :: undef :: undef :: undef :: undef :: undef :: undef :: undef :: undef :: undef :: undef :: undef :: undef :: undef :: undef :: undef :: undef :: undef :: undef :: undef :: undef :: undef :: undef :: undef :: undef :: undef :: undef :: undef :: undef :: undef :: undef :: undef :: undef :: undef :: undef :: undef :: undef :: undef :: undef :: undef :: undef :: undef :: undef :: undef :: undef :: undef :: List.nil).toArray, []⟩ W := by
  conv => arg 2; whnf
  have HH : Hid ((∀ j : Nat, 0 ≤ F[j]?.getD 0 ∧ F[j]?.getD 0 ≤ 18446744073709551615) ∧ (∀ j : Nat, 0 ≤ C[j]?.getD 0 ∧ C[j]?.getD 0 ≤ 18446744073709551615) ∧ (∀ j : Nat, -2147483648 ≤ P[j]?.getD 0 ∧ P[j]?.getD 0 ≤ 2147483647) ∧ E.length = P.length) := ⟨bF, bC, bP, lE⟩
  clear bF bC bP lE
  have hp1 := hpos.1
  have hp2 := hpos.2
  clear hpos
  by_cases hA : pos < 0
  · have d1 : decide (pos < 0) = true := decide_eq_true hA
    go_wp2_with fail
    go_ret
    exact ⟨rfl, B⟩
  obtain ⟨y, rfl⟩ : ∃ y : Nat, pos = (y : Int) := ⟨pos.toNat, by omega⟩
  have d1 : decide ((y : Int) < 0) = false := decide_eq_false (by omega)
  clear hA
  by_cases hB : J.length ≤ y
  · have d2 : decide ((J.length : Int) ≤ (y : Int)) = true := decide_eq_true (by omega)
    have d3 : decide (J.length ≤ y) = true := decide_eq_true hB
    go_wp2_with fail
    go_ret
    exact ⟨rfl, B⟩
  have d2 : decide ((J.length : Int) ≤ (y : Int)) = false := decide_eq_false (by omega)
  have d3 : decide (J.length ≤ y) = false := decide_eq_false hB
  have hJ : y < J.length := by omega
  have hJi : (y : Int) < (J.length : Int) := by omega
  obtain ⟨qj, hqj, cJ0⟩ := rJ.look y _ (getD_some hJ)
  obtain ⟨jv, hjv⟩ : ∃ jv, jv = J[y]?.getD 0 := ⟨_, rfl⟩
  have cJ : W.cell? ⟨qj, y, none⟩ = some (.int .i32 jv) := by rw [hjv]; exact cJ0
  have HJV : Hid (jv = J[y]?.getD 0) := hjv
  clear hjv cJ0
  subst hqj
  by_cases hC : 0 ≤ jv
  · have d4 : decide (0 ≤ jv) = true := decide_eq_true hC
    go_wp2_with fail
    go_ret
    exact ⟨rfl, B⟩
  have d4 : decide (0 ≤ jv) = false := decide_eq_false hC
  by_cases hD : F.length ≤ y / 64
  · have d5 : decide ((F.length : Int) ≤ (y : Int) / 64) = true := decide_eq_true (by omega)
    go_wp2_with fail
    go_ret
    exact ⟨rfl, B⟩
  have d5 : decide ((F.length : Int) ≤ (y : Int) / 64) = false := decide_eq_false (by omega)
  by_cases hE : 0 < y ∧ C.length ≤ (y - 1) / 64
  · have d6 : decide ((0 : Int) < (y : Int)) = true := decide_eq_true (by omega)
    have d6' : decide (0 < y) = true := decide_eq_true hE.1
    obtain ⟨i1, hi1, hi2⟩ : ∃ i1 : Nat, (y : Int) - 1 = (i1 : Int) ∧ i1 = y - 1 := ⟨y - 1, by omega, rfl⟩
    have d7 : decide ((C.length : Int) ≤ (i1 : Int) / 64) = true := decide_eq_true (by have := hE.2; rw [← hi2] at this; omega)
    clear hi2 hE
    go_wp2_with fail
    go_ret
    exact ⟨rfl, B⟩
  have hCc : 0 < y → (y - 1) / 64 < C.length := fun h => by
    rcases Nat.lt_or_ge ((y - 1) / 64) C.length with h' | h'
    · exact h'
    · exact absurd ⟨h, h'⟩ hE
  have HC : Hid (0 < y → (y - 1) / 64 < C.length) := hCc
  clear hE hCc
  have hy : y < 16384 := by omega
  have hF1 : y / 64 < F.length := by omega
  by_cases h0 : 0 < y
  · obtain ⟨i1, hi1, hi2⟩ : ∃ i1 : Nat, (y : Int) - 1 = (i1 : Int) ∧ i1 = y - 1 := ⟨y - 1, by omega, rfl⟩
    have hC1 : i1 / 64 < C.length := by rw [hi2]; exact HC.out h0
    have hi16 : i1 < 16384 := by omega
    have hyi : (0 : Int) < (y : Int) := by omega
    have d6 : decide ((0 : Int) < (y : Int)) = true := decide_eq_true (by omega)
    have d6' : decide (0 < y) = true := decide_eq_true h0
    have d7 : decide ((C.length : Int) ≤ (i1 : Int) / 64) = false := decide_eq_false (by omega)
    clear hi2
    go_upto_if 161 with fail
    go_step
    go_step
    go_step
    go_step
    exact law3_B1b a0 fa ca (some ⟨qj, 0, none⟩) pa ea c0 fc cc jc pc ec M F C J P E gen start en y w W B sM nM rF rC rJ rP rE qF qC qJ qP qE HH.out.1 HH.out.2.1 HH.out.2.2.1 lM lP HH.out.2.2.2 hy hJ (by rw [← HJV.out]; omega) hF1 HC.out _ _ _ _ _ _ _ _ _ _ _ _ _ _ _ _ _ _ _ _ _ _ _ _ _ _ _ _ _ _ _ _ _ _ _ _ _ _ _ _ _ _ _ _ _ _ _ _ _ _ _ _ _ _ _ _ _ _ _ _ _ _ _ _ _ _ _ _ _ _ _ _ _ _ _ _ _ _ _ _ _ _ _ _ _ _ _ _ _ _ _ _ _ _ _ _ _ _ _ _ _ _ _ _ _ _ _ _ _ _ _ _ _ _ _ _ _ _ _ _ _ _ _ _ _ _ _
  · have d6 : decide ((0 : Int) < (y : Int)) = false := decide_eq_false (by omega)
    have d6' : decide (0 < y) = false := decide_eq_false h0
    go_upto_if 161 with fail
    go_step
    go_step
    go_step
    go_step
    exact law3_B1b a0 fa ca (some ⟨qj, 0, none⟩) pa ea c0 fc cc jc pc ec M F C J P E gen start en y w W B sM nM rF rC rJ rP rE qF qC qJ qP qE HH.out.1 HH.out.2.1 HH.out.2.2.1 lM lP HH.out.2.2.2 hy hJ (by rw [← HJV.out]; omega) hF1 HC.out _ _ _ _ _ _ _ _ _ _ _ _ _ _ _ _ _ _ _ _ _ _ _ _ _ _ _ _ _ _ _ _ _ _ _ _ _ _ _ _ _ _ _ _ _ _ _ _ _ _ _ _ _ _ _ _ _ _ _ _ _ _ _ _ _ _ _ _ _ _ _ _ _ _ _ _ _ _ _ _ _ _ _ _ _ _ _ _ _ _ _ _ _ _ _ _ _ _ _ _ _ _ _ _ _ _ _ _ _ _ _ _ _ _ _ _ _ _ _ _ _ _ _ _ _ _ _
end Go.Proofs.Qxb6613719aDoor
