import Derived.Test.Qxb6613719aDoorLaw4C
import Derived.Test.Qxb6613719aDoorSta
namespace Go.Proofs.Qxb6613719aDoor
open Go.RowKit
set_option linter.unusedVariables false
/-- What stands in the world while the results are compared. -/
structure PK4 (W w : World) (a0 pa ea ma : Option Addr) (q1 q2 q3 q4 q5 q6 : Nat) (M M3 P E O1 O2 E1 E2 : List Int) : Prop where
  B : Below w.heap.size w W
  m : RowO W .i64 a0 M
  o1 : Row W .i32 (some ⟨q1, 0, none⟩) O1
  o2 : Row W .i32 (some ⟨q2, 0, none⟩) O2
  e1 : Row W .i64 (some ⟨q3, 0, none⟩) E1
  e2 : Row W .i64 (some ⟨q4, 0, none⟩) E2
  o3 : Row W .i32 (some ⟨q5, 0, none⟩) O2
  e3 : Row W .i64 (some ⟨q6, 0, none⟩) E2
  p : Row W .i32 pa P
  e : Row W .i64 ea E
  a : Row W .i64 ma M3
theorem PK4.drew {W W' w : World} {a0 pa ea ma : Option Addr} {q1 q2 q3 q4 q5 q6 : Nat} {M M3 P E O1 O2 E1 E2 : List Int} (h : PK4 W w a0 pa ea ma q1 q2 q3 q4 q5 q6 M M3 P E O1 O2 E1 E2) {nq : Nat} (hW : W' = W.drewN nq) : PK4 W' w a0 pa ea ma q1 q2 q3 q4 q5 q6 M M3 P E O1 O2 E1 E2 := by
  rw [hW]
  exact ⟨below_drewN' h.B nq, ⟨h.m.look⟩, h.o1.drewN nq, h.o2.drewN nq, h.e1.drewN nq, h.e2.drewN nq, h.o3.drewN nq, h.e3.drewN nq, h.p.drewN nq, h.e.drewN nq, h.a.drewN nq⟩
set_option maxRecDepth 1000000 in
set_option maxHeartbeats 4000000 in
theorem law4_B4d (a0 pa ea ma : Option Addr) (c0 pc ec q1 q2 q3 q4 q5 q6 ps : Nat) (M M3 P E O1 O2 E1 E2 : List Int) (gen start y1 y2 en en2 : Int) (c1 f1 c2 f2 : Bool) (w W : World) (B : Below w.heap.size w W)
    (S : Search W ps (.slice ma M.length M.length) gen)
    (sM : RowO W .i64 a0 M) (rO1 : Row W .i32 (some ⟨q1, 0, none⟩) O1) (rO2 : Row W .i32 (some ⟨q2, 0, none⟩) O2) (rE1 : Row W .i64 (some ⟨q3, 0, none⟩) E1) (rE2 : Row W .i64 (some ⟨q4, 0, none⟩) E2) (rO3 : Row W .i32 (some ⟨q5, 0, none⟩) O2) (rE3 : Row W .i64 (some ⟨q6, 0, none⟩) E2) (rP : Row W .i32 pa P) (rE : Row W .i64 ea E)
    (lE : E.length = P.length) (lOE1 : E1.length = O1.length) (lOE2 : E2.length = O2.length) (rA : Row W .i64 ma M3)
    (lM : M.length ≤ 16384) (l3 : M3.length = M.length) (lO : O2.length ≤ 20000) (lP : P.length ≤ O1.length) (l12 : O1.length ≤ O2.length) (hy0 : 0 ≤ y1) (hy1 : y1 < 16384) (hz0 : 0 ≤ y2) (hz1 : y2 < 16384)
    (bO1 : ∀ j : Nat, -2147483648 ≤ O1[j]?.getD 0 ∧ O1[j]?.getD 0 ≤ 2147483647) (bO2 : ∀ j : Nat, -2147483648 ≤ O2[j]?.getD 0 ∧ O2[j]?.getD 0 ≤ 2147483647)
    (hold1 : ∀ j : Nat, j < P.length → O1[j]?.getD 0 = P[j]?.getD 0 ∧ E1[j]?.getD 0 = E[j]?.getD 0)
    (hold2 : ∀ j : Nat, j < O1.length → O2[j]?.getD 0 = O1[j]?.getD 0 ∧ E2[j]?.getD 0 = E1[j]?.getD 0)
    (hnew1 : ∀ j : Nat, P.length ≤ j → j < O1.length → E1[j]?.getD 0 = en ∧ 0 ≤ O1[j]?.getD 0 ∧ O1[j]?.getD 0 < M.length)
    (hnew2 : ∀ j : Nat, O1.length ≤ j → j < O2.length → E2[j]?.getD 0 = en2 ∧ 0 ≤ O2[j]?.getD 0 ∧ O2[j]?.getD 0 < M.length)
    (hcnt1 : ∀ x : Nat, x < M.length → countOf x (O1.drop P.length) = if reachB c1 f1 y1 start x = true ∧ ¬ M[x]?.getD 0 = gen then 1 else 0)
    (hcnt2 : ∀ x : Nat, x < M.length → countOf x (O2.drop O1.length) = if reachB c2 f2 y2 start x = true ∧ reachB c1 f1 y1 start x = false ∧ ¬ M[x]?.getD 0 = gen then 1 else 0)
    (hmrk : ∀ x : Nat, x < M.length → M3[x]?.getD 0 = if reachB c1 f1 y1 start x = true ∨ reachB c2 f2 y2 start x = true then gen else M[x]?.getD 0)
    (u3 u4 u5 u8 u10 u24 u25 u26 u27 u28 u29 u36 u38 u54 u55 u56 u57 u58 u59 u60 u61 u62 u63 u64 u65 u66 u67 u68 u69 u70 u71 u72 u73 u74 u75 u76 u77 u78 u79 u80 u81 u82 u83 u84 u85 u86 u87 u88 u89 u90 u91 u92 u93 u94 u95 u96 u97 u98 u99 u100 u101 u102 u103 u104 u105 u106 u107 u108 u109 u110 u111 u112 u113 u114 u115 u116 u117 u118 u119 u120 u121 u122 u123 u124 u125 u126 u127 u128 u129 u130 u131 u132 u133 u134 u135 u136 u137 u138 u139 u140 u141 u142 u143 u144 u145 u146 u147 u148 u149 u150 u151 u152 u153 u154 u155 u156 u157 u158 u159 u160 u161 u162 u163 u164 u165 u166 u167 u168 u169 u170 u171 u172 u173 u174 u175 u176 u177 u178 u179 u180 u181 u182 u183 u184 u185 u186 u187 u188 u189 u190 u191 u192 u193 u194 u195 u196 u197 u198 u199 u200 u201 u202 u203 u204 u205 u206 u207 u208 u209 u210 u211 u212 u213 u214 u215 u216 u217 u218 u219 u220 u221 u222 u223 u224 u225 u226 u227 u228 u229 u230 u231 u232 u233 u234 u235 u236 u237 u238 u239 u240 u241 u242 u243 u244 u245 u246 u247 u248 u249 u250 u251 u252 u253 u254 u255 u256 u257 u258 u259 u260 u261 u262 u263 u264 u265 u266 u267 u268 u269 u270 u271 u272 u273 u274 u275 u276 u277 u278 u279 u280 u281 u282 u283 u284 u285 u286 u287 u288 u289 u290 u291 u292 u293 u294 u295 u296 u297 u298 u299 u300 u301 u302 u303 : Value) :
    Code.wp Tryd.prog (seqTail 29 (Tryd.f4.body.getD .skip)) (bodyPost Tryd.prog Tryd.f4 (fun e w' => e = .returned (.bool true) ∧ Below w.heap.size w w'))
      ⟨(.slice a0 M.length c0 :: .int .i64 gen :: .int .i64 start :: u3 :: u4 :: u5 :: .slice pa P.length pc :: .slice ea P.length ec :: u8 :: .int .i64 en :: u10 :: .int .i64 en2 :: undef :: undef :: undef :: undef :: undef :: undef :: undef :: undef :: undef :: undef :: undef :: undef :: u24 :: u25 :: u26 :: u27 :: u28 :: u29 :: .int .i64 y1 :: .int .i64 y2 :: .bool c1 :: .bool f1 :: .bool c2 :: .bool f2 :: u36 :: .pointer (some ⟨ps, 0, none⟩) :: u38 :: .slice (some ⟨q1, 0, none⟩) O1.length O1.length :: .slice (some ⟨q3, 0, none⟩) O1.length O1.length :: .slice (some ⟨q2, 0, none⟩) O2.length O2.length :: .slice (some ⟨q4, 0, none⟩) O2.length O2.length :: .slice (some ⟨q5, 0, none⟩) O2.length O2.length :: .slice (some ⟨q6, 0, none⟩) O2.length O2.length :: undef :: undef :: undef :: undef :: undef :: undef :: undef :: undef :: undef :: u54 :: u55 :: u56 :: u57 :: u58 :: u59 :: u60 :: u61 :: u62 :: u63 :: u64 :: u65 :: u66 :: u67 :: u68 :: u69 :: u70 :: u71 :: u72 :: u73 :: u74 :: u75 :: u76 :: u77 :: u78 :: u79 :: u80 :: u81 :: u82 :: u83 :: u84 :: u85 :: u86 :: u87 :: u88 :: u89 :: u90 :: u91 :: u92 :: u93 :: u94 :: u95 :: u96 :: u97 :: u98 :: u99 :: u100 :: u101 :: u102 :: u103 :: u104 :: u105 :: u106 :: u107 :: u108 :: u109 :: u110 :: u111 :: u112 :: u113 :: u114 :: u115 :: u116 :: u117 :: u118 :: u119 :: u120 :: u121 :: u122 :: u123 :: u124 :: u125 :: u126 :: u127 :: u128 :: u129 :: u130 :: u131 :: u132 :: u133 :: u134 :: u135 :: u136 :: u137 :: u138 :: u139 :: u140 :: u141 :: u142 :: u143 :: u144 :: u145 :: u146 :: u147 :: u148 :: u149 :: u150 :: u151 :: u152 :: u153 :: u154 :: u155 :: u156 :: u157 :: u158 :: u159 :: u160 :: u161 :: u162 :: u163 :: u164 :: u165 :: u166 :: u167 :: u168 :: u169 :: u170 :: u171 :: u172 :: u173 :: u174 :: u175 :: u176 :: u177 :: u178 :: u179 :: u180 :: u181 :: u182 :: u183 :: u184 :: u185 :: u186 :: u187 :: u188 :: u189 :: u190 :: u191 :: u192 :: u193 :: u194 :: u195 :: u196 :: u197 :: u198 :: u199 :: u200 :: u201 :: u202 :: u203 :: u204 :: u205 :: u206 :: u207 :: u208 :: u209 :: u210 :: u211 :: u212 :: u213 :: u214 :: u215 :: u216 :: u217 :: u218 :: u219 :: u220 :: u221 :: u222 :: u223 :: u224 :: u225 :: u226 :: u227 :: u228 :: u229 :: u230 :: u231 :: u232 :: u233 :: u234 :: u235 :: u236 :: u237 :: u238 :: u239 :: u240 :: u241 :: u242 :: u243 :: u244 :: u245 :: u246 :: u247 :: u248 :: u249 :: u250 :: u251 :: u252 :: u253 :: u254 :: u255 :: u256 :: u257 :: u258 :: u259 :: u260 :: u261 :: u262 :: u263 :: u264 :: u265 :: u266 :: u267 :: u268 :: u269 :: u270 :: u271 :: u272 :: u273 :: u274 :: u275 :: u276 :: u277 :: u278 :: u279 :: u280 :: u281 :: u282 :: u283 :: u284 :: u285 :: u286 :: u287 :: u288 :: u289 :: u290 :: u291 :: u292 :: u293 :: u294 :: u295 :: u296 :: u297 :: u298 :: u299 :: u300 :: u301 :: u302 :: u303 :: undef :: undef :: undef :: undef :: undef :: undef :: undef :: undef :: undef :: undef :: undef :: undef :: undef :: undef :: undef :: undef :: undef :: undef :: undef :: undef :: undef :: undef :: undef :: undef :: undef :: undef :: undef :: undef :: undef :: undef :: undef :: undef :: undef :: undef :: undef :: undef :: undef :: undef :: undef :: undef :: undef :: undef :: undef :: undef :: undef :: undef :: undef :: undef :: undef :: undef :: undef :: undef :: undef :: undef :: undef :: undef :: undef :: undef :: undef :: undef :: undef :: undef :: undef :: undef :: undef :: undef :: undef :: undef :: undef :: undef :: undef :: undef :: undef :: undef :: undef :: undef :: undef :: undef :: undef :: undef :: undef :: undef :: undef :: undef :: undef :: undef :: undef :: undef :: undef :: undef :: undef :: undef :: undef :: undef :: undef :: undef :: undef :: undef :: undef :: undef :: undef :: undef :: undef :: undef :: undef :: undef :: undef :: undef :: undef :: undef :: undef :: undef :: undef :: undef :: undef :: undef :: undef :: undef :: undef :: undef :: undef :: undef :: undef :: undef :: undef :: undef :: undef :: undef :: undef :: undef :: undef :: undef :: undef :: undef :: undef :: undef :: undef :: undef :: undef :: undef :: undef :: undef :: undef :: undef :: undef :: undef :: undef :: undef :: undef :: undef :: undef :: undef :: undef :: undef :: undef :: undef :: undef :: undef :: undef :: undef :: undef :: undef :: undef :: undef :: undef :: undef :: undef :: undef :: undef :: undef :: undef :: undef :: undef :: undef :: undef :: undef :: undef :: undef :: undef :: undef :: undef :: undef :: undef :: undef :: undef :: undef :: undef :: undef :: undef :: List.nil).toArray, []⟩ W := by
  conv => arg 2; whnf
  obtain ⟨W0, hW0⟩ : ∃ W0, W0 = W := ⟨_, rfl⟩
  have K0 : PK4 W0 w a0 pa ea ma q1 q2 q3 q4 q5 q6 M M3 P E O1 O2 E1 E2 := by rw [hW0]; exact ⟨B, sM, rO1, rO2, rE1, rE2, rO3, rE3, rP, rE, rA⟩
  rw [← hW0]
  rw [← hW0] at S
  clear B sM rO1 rO2 rE1 rE2 rO3 rE3 rP rE rA hW0
  have HX : Hid (E1.length = O1.length ∧ E.length = P.length ∧ E2.length = O2.length ∧ (∀ j : Nat, j < P.length → O1[j]?.getD 0 = P[j]?.getD 0 ∧ E1[j]?.getD 0 = E[j]?.getD 0) ∧ (∀ j : Nat, j < O1.length → O2[j]?.getD 0 = O1[j]?.getD 0 ∧ E2[j]?.getD 0 = E1[j]?.getD 0)) := ⟨lOE1, lE, lOE2, hold1, hold2⟩
  have L := fun (W : World) (K : PK4 W w a0 pa ea ma q1 q2 q3 q4 q5 q6 M M3 P E O1 O2 E1 E2) => law4_Ca a0 pa ma c0 pc q1 q2 q3 q4 M M3 P O1 O2 E1 E2 gen start y1 y2 en en2 c1 f1 c2 f2 w W K.B K.m K.o1 K.o2 K.e1 K.e2 lOE1 lOE2 K.a lM l3 lO lP l12 hy0 hy1 hz0 hz1 bO1 bO2 hnew1 hnew2 hcnt1 hcnt2 hmrk
  clear lOE1 lOE2 lE hold1 hold2 l3 bO1 bO2 hnew1 hnew2 hcnt1 hcnt2 hmrk
  go_wp2_with fail
  refine (searchMarks_any ps _ gen W0 S).mono ?_
  rintro e w' ⟨rfl, hw'⟩
  rw [hw']
  clear hw' w' S
  go_wp2_with fail
  refine (prefix_any (some ⟨q1, 0, none⟩) (some ⟨q3, 0, none⟩) pa ea O1.length O1.length pc ec O1 E1 P E W0 (by omega) HX.out.1 HX.out.2.1 lP (fun j hj => (HX.out.2.2.2.1 j hj).1) (fun j hj => (HX.out.2.2.2.1 j hj).2) K0.o1 K0.e1 K0.p K0.e).mono ?_
  rintro e W1 ⟨rfl, nq, hW1⟩
  have K1 : PK4 W1 w a0 pa ea ma q1 q2 q3 q4 q5 q6 M M3 P E O1 O2 E1 E2 := K0.drew hW1
  clear hW1 K0 nq
  go_wp2_with fail
  refine (prefix_any (some ⟨q2, 0, none⟩) (some ⟨q4, 0, none⟩) (some ⟨q1, 0, none⟩) (some ⟨q3, 0, none⟩) O2.length O2.length O1.length O1.length O2 E2 O1 E1 W1 (by omega) HX.out.2.2.1 HX.out.1 l12 (fun j hj => (HX.out.2.2.2.2 j hj).1) (fun j hj => (HX.out.2.2.2.2 j hj).2) K1.o2 K1.e2 K1.o1 K1.e1).mono ?_
  rintro e W2 ⟨rfl, nq, hW2⟩
  have K2 : PK4 W2 w a0 pa ea ma q1 q2 q3 q4 q5 q6 M M3 P E O1 O2 E1 E2 := K1.drew hW2
  clear hW2 K1 nq
  go_wp2_with fail
  refine (prefix_any (some ⟨q5, 0, none⟩) (some ⟨q6, 0, none⟩) (some ⟨q2, 0, none⟩) (some ⟨q4, 0, none⟩) O2.length O2.length O2.length O2.length O2 E2 O2 E2 W2 (by omega) HX.out.2.2.1 HX.out.2.2.1 (Nat.le_refl _) (fun j hj => rfl) (fun j hj => rfl) K2.o3 K2.e3 K2.o2 K2.e2).mono ?_
  rintro e W3 ⟨rfl, nq, hW3⟩
  have K3 : PK4 W3 w a0 pa ea ma q1 q2 q3 q4 q5 q6 M M3 P E O1 O2 E1 E2 := K2.drew hW3
  clear hW3 K2 nq
  go_upto_if 339 with fail
  go_step
  go_step
  go_step
  go_step
  exact L W3 K3 _ _ _ _ _ _ _ _ _ _ _ _ _ _ _ _ _ _ _ _ _ _ _ _ _ _ _ _ _ _ _ _ _ _ _ _ _ _ _ _ _ _ _ _ _ _ _ _ _ _ _ _ _ _ _ _ _ _ _ _ _ _ _ _ _ _ _ _ _ _ _ _ _ _ _ _ _ _ _ _ _ _ _ _ _ _ _ _ _ _ _ _ _ _ _ _ _ _ _ _ _ _ _ _ _ _ _ _ _ _ _ _ _ _ _ _ _ _ _ _ _ _ _ _ _ _ _ _ _ _ _ _ _ _ _ _ _ _ _ _ _ _ _ _ _ _ _ _ _ _ _ _ _ _ _ _ _ _ _ _ _ _ _ _ _ _ _ _ _ _ _ _ _ _ _ _ _ _ _ _ _ _ _ _ _ _ _ _ _ _ _ _ _ _ _ _ _ _ _ _ _ _ _ _ _ _ _ _ _ _ _ _ _ _ _ _ _ _ _ _ _ _ _ _ _ _ _ _ _ _ _ _ _ _ _ _ _ _ _ _ _ _ _ _ _ _ _ _ _ _ _ _ _ _ _ _ _ _ _ _ _ _ _ _ _ _ _ _ _ _ _ _ _ _ _ _ _ _ _ _ _ _ _ _ _ _ _ _ _ _ _ _ _ _ _ _ _ _ _ _ _ _ _
end Go.Proofs.Qxb6613719aDoor
