import Derived.Test.Qxb6613719aDoorLawD
namespace Go.Proofs.Qxb6613719aDoor
open Go.RowKit
set_option linter.unusedVariables false
set_option maxRecDepth 1000000 in
set_option maxHeartbeats 4000000 in
theorem law3_C (a0 pa ma : Option Addr) (c0 pc q1 q2 : Nat) (M M2 P OP OE : List Int) (gen start y en : Int) (bc bf : Bool) (w W : World) (B : Below w.heap.size w W)
    (sM : RowO W .i64 a0 M) (rO : Row W .i32 (some ⟨q1, 0, none⟩) OP) (rO2 : Row W .i64 (some ⟨q2, 0, none⟩) OE) (lOE : OE.length = OP.length) (rA : Row W .i64 ma M2)
    (lM : M.length ≤ 16384) (l2 : M2.length = M.length) (lO : OP.length ≤ 20000) (lP : P.length ≤ OP.length) (hy0 : 0 ≤ y) (hy1 : y < 16384)
    (bO : ∀ j : Nat, -2147483648 ≤ OP[j]?.getD 0 ∧ OP[j]?.getD 0 ≤ 2147483647)
    (hnew : ∀ j : Nat, P.length ≤ j → j < OP.length → OE[j]?.getD 0 = en ∧ 0 ≤ OP[j]?.getD 0 ∧ OP[j]?.getD 0 < M.length)
    (hcnt : ∀ x : Nat, x < M.length → countOf x (OP.drop P.length) = if reachB bc bf y start x = true ∧ ¬ M[x]?.getD 0 = gen then 1 else 0)
    (hmrk : ∀ x : Nat, x < M.length → M2[x]?.getD 0 = if reachB bc bf y start x = true then gen else M[x]?.getD 0)
    (u3 u4 u5 u7 u8 u20 u21 u22 u23 u24 u25 u29 u30 u31 u40 u41 u42 u43 u44 u45 u46 u47 u48 u49 u50 u51 u52 u53 u54 u55 u56 u57 u58 u59 u60 u61 u62 u63 u64 u65 u66 u67 u68 u69 u70 u71 u72 u73 u74 u75 u76 u77 u78 u79 u80 u81 u82 u83 u84 u85 u86 u87 u88 u89 u90 u91 u92 u93 u94 u95 u96 u97 u98 u99 u100 u101 u102 u103 u104 u105 u106 u107 u108 u109 u110 u111 u112 u113 u114 u115 u116 u117 u118 u119 u120 u121 u122 u123 u124 u125 u126 u127 u128 u129 u130 u131 u132 u133 u134 u135 u136 u137 u138 u139 u140 u141 u142 u143 u144 u145 u146 u147 u148 u149 u150 u151 u152 u153 u154 u155 u156 u157 u158 u159 u160 u161 u162 u163 u164 u165 u166 u167 u168 u169 u170 u171 u172 u173 u174 u175 u176 u177 u178 u179 u180 u181 u182 u183 u184 u185 u186 u187 u188 u189 u190 u191 u192 u193 u194 u195 u196 u197 u198 u199 u200 u201 u202 u203 u204 u205 u206 u207 u208 u209 u210 u211 u212 u213 u214 u215 u216 u217 u218 u219 u220 u221 u222 u223 u224 : Value) :
    Code.wp Tryd.prog (seqTail 24 (Tryd.f3.body.getD .skip)) (bodyPost Tryd.prog Tryd.f3 (fun e w' => e = .returned (.bool true) ∧ Below w.heap.size w w'))
      ⟨(.slice a0 M.length c0 :: .int .i64 gen :: .int .i64 start :: u3 :: u4 :: u5 :: .slice pa P.length pc :: u7 :: u8 :: .int .i64 en :: undef :: undef :: undef :: undef :: undef :: undef :: undef :: undef :: undef :: undef :: u20 :: u21 :: u22 :: u23 :: u24 :: u25 :: .int .i64 y :: .bool bc :: .bool bf :: u29 :: u30 :: u31 :: .slice (some ⟨q1, 0, none⟩) OP.length OP.length :: .slice (some ⟨q2, 0, none⟩) OP.length OP.length :: .slice ma M.length M.length :: undef :: undef :: undef :: undef :: undef :: u40 :: u41 :: u42 :: u43 :: u44 :: u45 :: u46 :: u47 :: u48 :: u49 :: u50 :: u51 :: u52 :: u53 :: u54 :: u55 :: u56 :: u57 :: u58 :: u59 :: u60 :: u61 :: u62 :: u63 :: u64 :: u65 :: u66 :: u67 :: u68 :: u69 :: u70 :: u71 :: u72 :: u73 :: u74 :: u75 :: u76 :: u77 :: u78 :: u79 :: u80 :: u81 :: u82 :: u83 :: u84 :: u85 :: u86 :: u87 :: u88 :: u89 :: u90 :: u91 :: u92 :: u93 :: u94 :: u95 :: u96 :: u97 :: u98 :: u99 :: u100 :: u101 :: u102 :: u103 :: u104 :: u105 :: u106 :: u107 :: u108 :: u109 :: u110 :: u111 :: u112 :: u113 :: u114 :: u115 :: u116 :: u117 :: u118 :: u119 :: u120 :: u121 :: u122 :: u123 :: u124 :: u125 :: u126 :: u127 :: u128 :: u129 :: u130 :: u131 :: u132 :: u133 :: u134 :: u135 :: u136 :: u137 :: u138 :: u139 :: u140 :: u141 :: u142 :: u143 :: u144 :: u145 :: u146 :: u147 :: u148 :: u149 :: u150 :: u151 :: u152 :: u153 :: u154 :: u155 :: u156 :: u157 :: u158 :: u159 :: u160 :: u161 :: u162 :: u163 :: u164 :: u165 :: u166 :: u167 :: u168 :: u169 :: u170 :: u171 :: u172 :: u173 :: u174 :: u175 :: u176 :: u177 :: u178 :: u179 :: u180 :: u181 :: u182 :: u183 :: u184 :: u185 :: u186 :: u187 :: u188 :: u189 :: u190 :: u191 :: u192 :: u193 :: u194 :: u195 :: u196 :: u197 :: u198 :: u199 :: u200 :: u201 :: u202 :: u203 :: u204 :: u205 :: u206 :: u207 :: u208 :: u209 :: u210 :: u211 :: u212 :: u213 :: u214 :: u215 :: u216 :: u217 :: u218 :: u219 :: u220 :: u221 :: u222 :: u223 :: u224 :: undef :: undef :: undef :: undef :: undef :: undef :: undef :: undef :: undef :: undef :: undef :: undef :: undef :: undef :: undef :: undef :: undef :: undef :: undef :: undef :: undef :: undef :: undef :: undef :: undef :: undef :: undef :: undef :: undef :: undef :: undef :: undef :: undef :: undef :: undef :: undef :: undef :: undef :: undef :: undef :: undef :: undef :: undef :: undef :: undef :: undef :: undef :: undef :: undef :: undef :: undef :: undef :: undef :: undef :: undef :: undef :: undef :: undef :: undef :: undef :: undef :: undef :: undef :: undef :: undef :: undef :: undef :: undef :: undef :: undef :: undef :: undef :: undef :: undef :: undef :: undef :: undef :: undef :: undef :: undef :: undef :: List.nil).toArray, []⟩ W := by
  conv => arg 2; whnf
  go_step
  go_step
  go_cut [] from 225 to 255 (fun wc => wc = W)
  case rest =>
    subst hcut
    go_step
    exact law3_D a0 pa ma c0 pc q1 M M2 P OP gen start y bc bf w wc B sM rO rA lM l2 lO lP hy0 hy1 bO hcnt hmrk _ _ _ _ _ _ _ _ _ _ _ _ _ _ _ _ _ _ _ _ _ _ _ _ _ _ _ _ _ _ _ _ _ _ _ _ _ _ _ _ _ _ _ _ _ _ _ _ _ _ _ _ _ _ _ _ _ _ _ _ _ _ _ _ _ _ _ _ _ _ _ _ _ _ _ _ _ _ _ _ _ _ _ _ _ _ _ _ _ _ _ _ _ _ _ _ _ _ _ _ _ _ _ _ _ _ _ _ _ _ _ _ _ _ _ _ _ _ _ _ _ _ _ _ _ _ _ _ _ _ _ _ _ _ _ _ _ _ _ _ _ _ _ _ _ _ _ _ _ _ _ _ _ _ _ _ _ _ _ _ _ _ _ _ _ _ _ _ _ _ _ _ _ _ _ _ _ _ _ _ _ _ _ _ _ _ _ _ _ _ _ _ _ _ _ _ _ _ _ _ _ _ _ _ _ _ _ _ _ _ _ _ _ _ _ _ _ _ _ _ _ _ _ _ _ _ _ _ _ _ _ _ _
  case first =>
    have HNW : Hid (∀ j : Nat, P.length ≤ j → j < OP.length → OE[j]?.getD 0 = en ∧ 0 ≤ OP[j]?.getD 0 ∧ OP[j]?.getD 0 < M.length) := hnew
    have HOE : Hid (OE.length = OP.length) := lOE
    clear hcnt hmrk hnew bO l2 rA sM lOE
    go_wp2_with fail
    go_loop [35] (fun i => ∃ k : Nat, P.length ≤ k ∧ k ≤ OP.length ∧ i = .int .i64 k) (fun i => OP.length - (intOf i).toNat)
    case atStart => exact ⟨P.length, Nat.le_refl _, lP, rfl⟩
    case round =>
      obtain ⟨k, hk0, hk, rfl⟩ := hrel
      by_cases hlt : k < OP.length
      · obtain ⟨q, hq, c1⟩ := rO.look k _ (getD_some hlt)
        cases hq
        obtain ⟨q, hq, c2⟩ := rO2.look k _ (getD_some (by have := HOE.out; omega))
        cases hq
        obtain ⟨e1, e2, e3⟩ := HNW.out k hk0 hlt
        rw [e1] at c2
        obtain ⟨pv, hpv⟩ : ∃ pv, pv = OP[k]?.getD 0 := ⟨_, rfl⟩
        rw [← hpv] at c1 e2 e3
        clear hpv e1
        have hli : (k : Int) < (OP.length : Int) := by omega
        have d1 : decide (pv < 0) = false := decide_eq_false (by omega)
        have d2 : decide ((M.length : Int) ≤ pv) = false := decide_eq_false (by omega)
        go_wp2_with fail
        go_round
        case rel => exact ⟨k + 1, by omega, by omega, by go_num⟩
        case measure => simp [intOf]; omega
      · go_wp2_with fail
        go_meet
        case rel => rfl
end Go.Proofs.Qxb6613719aDoor
