import Derived.Test.Qxb6613719aDoorLaw4D
namespace Go.Proofs.Qxb6613719aDoor
open Go.RowKit
set_option linter.unusedVariables false
set_option maxRecDepth 1000000 in
set_option maxHeartbeats 4000000 in
theorem law4_Cb (a0 pa ma : Option Addr) (c0 pc q1 q2 q3 q4 : Nat) (M M3 P O1 O2 E1 E2 : List Int) (gen start y1 y2 en en2 : Int) (c1 f1 c2 f2 : Bool) (w W : World) (B : Below w.heap.size w W)
    (sM : RowO W .i64 a0 M) (rO1 : Row W .i32 (some ⟨q1, 0, none⟩) O1) (rO2 : Row W .i32 (some ⟨q2, 0, none⟩) O2) (rE1 : Row W .i64 (some ⟨q3, 0, none⟩) E1) (rE2 : Row W .i64 (some ⟨q4, 0, none⟩) E2) (lOE1 : E1.length = O1.length) (lOE2 : E2.length = O2.length) (rA : Row W .i64 ma M3)
    (lM : M.length ≤ 16384) (l3 : M3.length = M.length) (lO : O2.length ≤ 20000) (lP : P.length ≤ O1.length) (l12 : O1.length ≤ O2.length) (hy0 : 0 ≤ y1) (hy1 : y1 < 16384) (hz0 : 0 ≤ y2) (hz1 : y2 < 16384)
    (bO1 : ∀ j : Nat, -2147483648 ≤ O1[j]?.getD 0 ∧ O1[j]?.getD 0 ≤ 2147483647) (bO2 : ∀ j : Nat, -2147483648 ≤ O2[j]?.getD 0 ∧ O2[j]?.getD 0 ≤ 2147483647)
    (hnew1 : ∀ j : Nat, P.length ≤ j → j < O1.length → E1[j]?.getD 0 = en ∧ 0 ≤ O1[j]?.getD 0 ∧ O1[j]?.getD 0 < M.length)
    (hnew2 : ∀ j : Nat, O1.length ≤ j → j < O2.length → E2[j]?.getD 0 = en2 ∧ 0 ≤ O2[j]?.getD 0 ∧ O2[j]?.getD 0 < M.length)
    (hcnt1 : ∀ x : Nat, x < M.length → countOf x (O1.drop P.length) = if reachB c1 f1 y1 start x = true ∧ ¬ M[x]?.getD 0 = gen then 1 else 0)
    (hcnt2 : ∀ x : Nat, x < M.length → countOf x (O2.drop O1.length) = if reachB c2 f2 y2 start x = true ∧ reachB c1 f1 y1 start x = false ∧ ¬ M[x]?.getD 0 = gen then 1 else 0)
    (hmrk : ∀ x : Nat, x < M.length → M3[x]?.getD 0 = if reachB c1 f1 y1 start x = true ∨ reachB c2 f2 y2 start x = true then gen else M[x]?.getD 0)
    (u3 u4 u5 u7 u8 u9 u10 u24 u25 u26 u27 u28 u29 u36 u37 u38 u40 u43 u44 u46 u54 u55 u56 u57 u58 u59 u60 u61 u62 u63 u64 u65 u66 u67 u68 u69 u70 u71 u72 u73 u74 u75 u76 u77 u78 u79 u80 u81 u82 u83 u84 u85 u86 u87 u88 u89 u90 u91 u92 u93 u94 u95 u96 u97 u98 u99 u100 u101 u102 u103 u104 u105 u106 u107 u108 u109 u110 u111 u112 u113 u114 u115 u116 u117 u118 u119 u120 u121 u122 u123 u124 u125 u126 u127 u128 u129 u130 u131 u132 u133 u134 u135 u136 u137 u138 u139 u140 u141 u142 u143 u144 u145 u146 u147 u148 u149 u150 u151 u152 u153 u154 u155 u156 u157 u158 u159 u160 u161 u162 u163 u164 u165 u166 u167 u168 u169 u170 u171 u172 u173 u174 u175 u176 u177 u178 u179 u180 u181 u182 u183 u184 u185 u186 u187 u188 u189 u190 u191 u192 u193 u194 u195 u196 u197 u198 u199 u200 u201 u202 u203 u204 u205 u206 u207 u208 u209 u210 u211 u212 u213 u214 u215 u216 u217 u218 u219 u220 u221 u222 u223 u224 u225 u226 u227 u228 u229 u230 u231 u232 u233 u234 u235 u236 u237 u238 u239 u240 u241 u242 u243 u244 u245 u246 u247 u248 u249 u250 u251 u252 u253 u254 u255 u256 u257 u258 u259 u260 u261 u262 u263 u264 u265 u266 u267 u268 u269 u270 u271 u272 u273 u274 u275 u276 u277 u278 u279 u280 u281 u282 u283 u284 u285 u286 u287 u288 u289 u290 u291 u292 u293 u294 u295 u296 u297 u298 u299 u300 u301 u302 u303 u304 u305 u306 u307 u308 u309 u310 u311 u312 u313 u314 u315 u316 u317 u318 u319 u320 u321 u322 u323 u324 u325 u326 u327 u328 u329 u330 u331 u332 u333 u334 u335 u336 u337 u338 u339 u340 u341 u342 u343 u344 u345 u346 u347 u348 u349 u350 u351 u352 u353 u354 u355 u356 u357 u358 u359 u360 u361 u362 u363 u364 u365 u366 u367 u368 u369 u370 : Value) :
    Code.wp Tryd.prog (seqTail 33 (Tryd.f4.body.getD .skip)) (bodyPost Tryd.prog Tryd.f4 (fun e w' => e = .returned (.bool true) ∧ Below w.heap.size w w'))
      ⟨(.slice a0 M.length c0 :: .int .i64 gen :: .int .i64 start :: u3 :: u4 :: u5 :: .slice pa P.length pc :: u7 :: u8 :: u9 :: u10 :: .int .i64 en2 :: undef :: undef :: undef :: undef :: undef :: undef :: undef :: undef :: undef :: undef :: undef :: undef :: u24 :: u25 :: u26 :: u27 :: u28 :: u29 :: .int .i64 y1 :: .int .i64 y2 :: .bool c1 :: .bool f1 :: .bool c2 :: .bool f2 :: u36 :: u37 :: u38 :: .slice (some ⟨q1, 0, none⟩) O1.length O1.length :: u40 :: .slice (some ⟨q2, 0, none⟩) O2.length O2.length :: .slice (some ⟨q4, 0, none⟩) O2.length O2.length :: u43 :: u44 :: .slice ma M.length M.length :: u46 :: undef :: undef :: undef :: undef :: undef :: undef :: undef :: u54 :: u55 :: u56 :: u57 :: u58 :: u59 :: u60 :: u61 :: u62 :: u63 :: u64 :: u65 :: u66 :: u67 :: u68 :: u69 :: u70 :: u71 :: u72 :: u73 :: u74 :: u75 :: u76 :: u77 :: u78 :: u79 :: u80 :: u81 :: u82 :: u83 :: u84 :: u85 :: u86 :: u87 :: u88 :: u89 :: u90 :: u91 :: u92 :: u93 :: u94 :: u95 :: u96 :: u97 :: u98 :: u99 :: u100 :: u101 :: u102 :: u103 :: u104 :: u105 :: u106 :: u107 :: u108 :: u109 :: u110 :: u111 :: u112 :: u113 :: u114 :: u115 :: u116 :: u117 :: u118 :: u119 :: u120 :: u121 :: u122 :: u123 :: u124 :: u125 :: u126 :: u127 :: u128 :: u129 :: u130 :: u131 :: u132 :: u133 :: u134 :: u135 :: u136 :: u137 :: u138 :: u139 :: u140 :: u141 :: u142 :: u143 :: u144 :: u145 :: u146 :: u147 :: u148 :: u149 :: u150 :: u151 :: u152 :: u153 :: u154 :: u155 :: u156 :: u157 :: u158 :: u159 :: u160 :: u161 :: u162 :: u163 :: u164 :: u165 :: u166 :: u167 :: u168 :: u169 :: u170 :: u171 :: u172 :: u173 :: u174 :: u175 :: u176 :: u177 :: u178 :: u179 :: u180 :: u181 :: u182 :: u183 :: u184 :: u185 :: u186 :: u187 :: u188 :: u189 :: u190 :: u191 :: u192 :: u193 :: u194 :: u195 :: u196 :: u197 :: u198 :: u199 :: u200 :: u201 :: u202 :: u203 :: u204 :: u205 :: u206 :: u207 :: u208 :: u209 :: u210 :: u211 :: u212 :: u213 :: u214 :: u215 :: u216 :: u217 :: u218 :: u219 :: u220 :: u221 :: u222 :: u223 :: u224 :: u225 :: u226 :: u227 :: u228 :: u229 :: u230 :: u231 :: u232 :: u233 :: u234 :: u235 :: u236 :: u237 :: u238 :: u239 :: u240 :: u241 :: u242 :: u243 :: u244 :: u245 :: u246 :: u247 :: u248 :: u249 :: u250 :: u251 :: u252 :: u253 :: u254 :: u255 :: u256 :: u257 :: u258 :: u259 :: u260 :: u261 :: u262 :: u263 :: u264 :: u265 :: u266 :: u267 :: u268 :: u269 :: u270 :: u271 :: u272 :: u273 :: u274 :: u275 :: u276 :: u277 :: u278 :: u279 :: u280 :: u281 :: u282 :: u283 :: u284 :: u285 :: u286 :: u287 :: u288 :: u289 :: u290 :: u291 :: u292 :: u293 :: u294 :: u295 :: u296 :: u297 :: u298 :: u299 :: u300 :: u301 :: u302 :: u303 :: u304 :: u305 :: u306 :: u307 :: u308 :: u309 :: u310 :: u311 :: u312 :: u313 :: u314 :: u315 :: u316 :: u317 :: u318 :: u319 :: u320 :: u321 :: u322 :: u323 :: u324 :: u325 :: u326 :: u327 :: u328 :: u329 :: u330 :: u331 :: u332 :: u333 :: u334 :: u335 :: u336 :: u337 :: u338 :: u339 :: u340 :: u341 :: u342 :: u343 :: u344 :: u345 :: u346 :: u347 :: u348 :: u349 :: u350 :: u351 :: u352 :: u353 :: u354 :: u355 :: u356 :: u357 :: u358 :: u359 :: u360 :: u361 :: u362 :: u363 :: u364 :: u365 :: u366 :: u367 :: u368 :: u369 :: u370 :: undef :: undef :: undef :: undef :: undef :: undef :: undef :: undef :: undef :: undef :: undef :: undef :: undef :: undef :: undef :: undef :: undef :: undef :: undef :: undef :: undef :: undef :: undef :: undef :: undef :: undef :: undef :: undef :: undef :: undef :: undef :: undef :: undef :: undef :: undef :: undef :: undef :: undef :: undef :: undef :: undef :: undef :: undef :: undef :: undef :: undef :: undef :: undef :: undef :: undef :: undef :: undef :: undef :: undef :: undef :: undef :: undef :: undef :: undef :: undef :: undef :: undef :: undef :: undef :: undef :: undef :: undef :: undef :: undef :: undef :: undef :: undef :: undef :: undef :: undef :: undef :: undef :: undef :: undef :: undef :: undef :: undef :: undef :: undef :: undef :: undef :: undef :: undef :: undef :: undef :: undef :: undef :: undef :: undef :: undef :: undef :: undef :: undef :: undef :: undef :: undef :: undef :: undef :: undef :: undef :: undef :: undef :: undef :: undef :: undef :: undef :: undef :: undef :: undef :: undef :: undef :: undef :: undef :: undef :: undef :: undef :: undef :: List.nil).toArray, []⟩ W := by
  conv => arg 2; whnf
  go_step
  go_step
  go_cut [] from 371 to 401 (fun wc => wc = W)
  case rest =>
    subst hcut
    rename World => W
    go_step
    exact law4_D a0 pa ma c0 pc q1 q2 M M3 P O1 O2 gen start y1 y2 c1 f1 c2 f2 w W B sM rO1 rO2 rA lM l3 lO lP l12 hy0 hy1 hz0 hz1 bO1 bO2 hcnt1 hcnt2 hmrk _ _ _ _ _ _ _ _ _ _ _ _ _ _ _ _ _ _ _ _ _ _ _ _ _ _ _ _ _ _ _ _ _ _ _ _ _ _ _ _ _ _ _ _ _ _ _ _ _ _ _ _ _ _ _ _ _ _ _ _ _ _ _ _ _ _ _ _ _ _ _ _ _ _ _ _ _ _ _ _ _ _ _ _ _ _ _ _ _ _ _ _ _ _ _ _ _ _ _ _ _ _ _ _ _ _ _ _ _ _ _ _ _ _ _ _ _ _ _ _ _ _ _ _ _ _ _ _ _ _ _ _ _ _ _ _ _ _ _ _ _ _ _ _ _ _ _ _ _ _ _ _ _ _ _ _ _ _ _ _ _ _ _ _ _ _ _ _ _ _ _ _ _ _ _ _ _ _ _ _ _ _ _ _ _ _ _ _ _ _ _ _ _ _ _ _ _ _ _ _ _ _ _ _ _ _ _ _ _ _ _ _ _ _ _ _ _ _ _ _ _ _ _ _ _ _ _ _ _ _ _ _ _ _ _ _ _ _ _ _ _ _ _ _ _ _ _ _ _ _ _ _ _ _ _ _ _ _ _ _ _ _ _ _ _ _ _ _ _ _ _ _ _ _ _ _ _ _ _ _ _ _ _ _ _ _ _ _ _ _ _ _ _ _ _ _ _ _ _ _ _ _ _ _ _ _ _ _ _ _ _ _ _ _ _ _ _ _ _ _ _ _ _ _ _ _ _ _ _ _ _ _ _ _ _ _ _ _ _ _ _ _ _ _ _ _ _ _ _ _ _ _ _ _ _ _ _ _ _ _ _ _ _ _ _ _ _ _ _ _ _
  case first =>
    have HNW : Hid (∀ j : Nat, O1.length ≤ j → j < O2.length → E2[j]?.getD 0 = en2 ∧ 0 ≤ O2[j]?.getD 0 ∧ O2[j]?.getD 0 < M.length) := hnew2
    have HOE : Hid (E2.length = O2.length) := lOE2
    clear hcnt1 hcnt2 hmrk hnew1 hnew2 bO1 bO2 l3 rA sM lOE1 lOE2
    go_wp2_with fail
    go_loop [47] (fun i => ∃ k : Nat, O1.length ≤ k ∧ k ≤ O2.length ∧ i = .int .i64 k) (fun i => O2.length - (intOf i).toNat)
    case atStart => exact ⟨O1.length, Nat.le_refl _, by assumption, rfl⟩
    case round =>
      obtain ⟨k, hk0, hk, rfl⟩ := hrel
      by_cases hlt : k < O2.length
      · obtain ⟨q, hq, c1⟩ := rO2.look k _ (getD_some hlt)
        cases hq
        obtain ⟨q, hq, c2⟩ := rE2.look k _ (getD_some (by have := HOE.out; omega))
        cases hq
        obtain ⟨e1, e2, e3⟩ := HNW.out k hk0 hlt
        rw [e1] at c2
        obtain ⟨pv, hpv⟩ : ∃ pv, pv = O2[k]?.getD 0 := ⟨_, rfl⟩
        rw [← hpv] at c1 e2 e3
        clear hpv e1
        have hli : (k : Int) < (O2.length : Int) := by omega
        have d1 : decide (pv < 0) = false := decide_eq_false (by omega)
        have d2 : decide ((M.length : Int) ≤ pv) = false := decide_eq_false (by omega)
        go_wp2_with fail
        go_round
        case rel => exact ⟨k + 1, by omega, by omega, by go_num⟩
        case measure => simp [intOf]; omega
      · go_wp2_with fail
        go_meet
        case rel => rfl
set_option maxRecDepth 1000000 in
set_option maxHeartbeats 4000000 in
theorem law4_Ca (a0 pa ma : Option Addr) (c0 pc q1 q2 q3 q4 : Nat) (M M3 P O1 O2 E1 E2 : List Int) (gen start y1 y2 en en2 : Int) (c1 f1 c2 f2 : Bool) (w W : World) (B : Below w.heap.size w W)
    (sM : RowO W .i64 a0 M) (rO1 : Row W .i32 (some ⟨q1, 0, none⟩) O1) (rO2 : Row W .i32 (some ⟨q2, 0, none⟩) O2) (rE1 : Row W .i64 (some ⟨q3, 0, none⟩) E1) (rE2 : Row W .i64 (some ⟨q4, 0, none⟩) E2) (lOE1 : E1.length = O1.length) (lOE2 : E2.length = O2.length) (rA : Row W .i64 ma M3)
    (lM : M.length ≤ 16384) (l3 : M3.length = M.length) (lO : O2.length ≤ 20000) (lP : P.length ≤ O1.length) (l12 : O1.length ≤ O2.length) (hy0 : 0 ≤ y1) (hy1 : y1 < 16384) (hz0 : 0 ≤ y2) (hz1 : y2 < 16384)
    (bO1 : ∀ j : Nat, -2147483648 ≤ O1[j]?.getD 0 ∧ O1[j]?.getD 0 ≤ 2147483647) (bO2 : ∀ j : Nat, -2147483648 ≤ O2[j]?.getD 0 ∧ O2[j]?.getD 0 ≤ 2147483647)
    (hnew1 : ∀ j : Nat, P.length ≤ j → j < O1.length → E1[j]?.getD 0 = en ∧ 0 ≤ O1[j]?.getD 0 ∧ O1[j]?.getD 0 < M.length)
    (hnew2 : ∀ j : Nat, O1.length ≤ j → j < O2.length → E2[j]?.getD 0 = en2 ∧ 0 ≤ O2[j]?.getD 0 ∧ O2[j]?.getD 0 < M.length)
    (hcnt1 : ∀ x : Nat, x < M.length → countOf x (O1.drop P.length) = if reachB c1 f1 y1 start x = true ∧ ¬ M[x]?.getD 0 = gen then 1 else 0)
    (hcnt2 : ∀ x : Nat, x < M.length → countOf x (O2.drop O1.length) = if reachB c2 f2 y2 start x = true ∧ reachB c1 f1 y1 start x = false ∧ ¬ M[x]?.getD 0 = gen then 1 else 0)
    (hmrk : ∀ x : Nat, x < M.length → M3[x]?.getD 0 = if reachB c1 f1 y1 start x = true ∨ reachB c2 f2 y2 start x = true then gen else M[x]?.getD 0)
    (u3 u4 u5 u7 u8 u10 u24 u25 u26 u27 u28 u29 u36 u37 u38 u43 u44 u54 u55 u56 u57 u58 u59 u60 u61 u62 u63 u64 u65 u66 u67 u68 u69 u70 u71 u72 u73 u74 u75 u76 u77 u78 u79 u80 u81 u82 u83 u84 u85 u86 u87 u88 u89 u90 u91 u92 u93 u94 u95 u96 u97 u98 u99 u100 u101 u102 u103 u104 u105 u106 u107 u108 u109 u110 u111 u112 u113 u114 u115 u116 u117 u118 u119 u120 u121 u122 u123 u124 u125 u126 u127 u128 u129 u130 u131 u132 u133 u134 u135 u136 u137 u138 u139 u140 u141 u142 u143 u144 u145 u146 u147 u148 u149 u150 u151 u152 u153 u154 u155 u156 u157 u158 u159 u160 u161 u162 u163 u164 u165 u166 u167 u168 u169 u170 u171 u172 u173 u174 u175 u176 u177 u178 u179 u180 u181 u182 u183 u184 u185 u186 u187 u188 u189 u190 u191 u192 u193 u194 u195 u196 u197 u198 u199 u200 u201 u202 u203 u204 u205 u206 u207 u208 u209 u210 u211 u212 u213 u214 u215 u216 u217 u218 u219 u220 u221 u222 u223 u224 u225 u226 u227 u228 u229 u230 u231 u232 u233 u234 u235 u236 u237 u238 u239 u240 u241 u242 u243 u244 u245 u246 u247 u248 u249 u250 u251 u252 u253 u254 u255 u256 u257 u258 u259 u260 u261 u262 u263 u264 u265 u266 u267 u268 u269 u270 u271 u272 u273 u274 u275 u276 u277 u278 u279 u280 u281 u282 u283 u284 u285 u286 u287 u288 u289 u290 u291 u292 u293 u294 u295 u296 u297 u298 u299 u300 u301 u302 u303 u304 u305 u306 u307 u308 u309 u310 u311 u312 u313 u314 u315 u316 u317 u318 u319 u320 u321 u322 u323 u324 u325 u326 u327 u328 u329 u330 u331 u332 u333 u334 u335 u336 u337 u338 u339 : Value) :
    Code.wp Tryd.prog (seqTail 32 (Tryd.f4.body.getD .skip)) (bodyPost Tryd.prog Tryd.f4 (fun e w' => e = .returned (.bool true) ∧ Below w.heap.size w w'))
      ⟨(.slice a0 M.length c0 :: .int .i64 gen :: .int .i64 start :: u3 :: u4 :: u5 :: .slice pa P.length pc :: u7 :: u8 :: .int .i64 en :: u10 :: .int .i64 en2 :: undef :: undef :: undef :: undef :: undef :: undef :: undef :: undef :: undef :: undef :: undef :: undef :: u24 :: u25 :: u26 :: u27 :: u28 :: u29 :: .int .i64 y1 :: .int .i64 y2 :: .bool c1 :: .bool f1 :: .bool c2 :: .bool f2 :: u36 :: u37 :: u38 :: .slice (some ⟨q1, 0, none⟩) O1.length O1.length :: .slice (some ⟨q3, 0, none⟩) O1.length O1.length :: .slice (some ⟨q2, 0, none⟩) O2.length O2.length :: .slice (some ⟨q4, 0, none⟩) O2.length O2.length :: u43 :: u44 :: .slice ma M.length M.length :: undef :: undef :: undef :: undef :: undef :: undef :: undef :: undef :: u54 :: u55 :: u56 :: u57 :: u58 :: u59 :: u60 :: u61 :: u62 :: u63 :: u64 :: u65 :: u66 :: u67 :: u68 :: u69 :: u70 :: u71 :: u72 :: u73 :: u74 :: u75 :: u76 :: u77 :: u78 :: u79 :: u80 :: u81 :: u82 :: u83 :: u84 :: u85 :: u86 :: u87 :: u88 :: u89 :: u90 :: u91 :: u92 :: u93 :: u94 :: u95 :: u96 :: u97 :: u98 :: u99 :: u100 :: u101 :: u102 :: u103 :: u104 :: u105 :: u106 :: u107 :: u108 :: u109 :: u110 :: u111 :: u112 :: u113 :: u114 :: u115 :: u116 :: u117 :: u118 :: u119 :: u120 :: u121 :: u122 :: u123 :: u124 :: u125 :: u126 :: u127 :: u128 :: u129 :: u130 :: u131 :: u132 :: u133 :: u134 :: u135 :: u136 :: u137 :: u138 :: u139 :: u140 :: u141 :: u142 :: u143 :: u144 :: u145 :: u146 :: u147 :: u148 :: u149 :: u150 :: u151 :: u152 :: u153 :: u154 :: u155 :: u156 :: u157 :: u158 :: u159 :: u160 :: u161 :: u162 :: u163 :: u164 :: u165 :: u166 :: u167 :: u168 :: u169 :: u170 :: u171 :: u172 :: u173 :: u174 :: u175 :: u176 :: u177 :: u178 :: u179 :: u180 :: u181 :: u182 :: u183 :: u184 :: u185 :: u186 :: u187 :: u188 :: u189 :: u190 :: u191 :: u192 :: u193 :: u194 :: u195 :: u196 :: u197 :: u198 :: u199 :: u200 :: u201 :: u202 :: u203 :: u204 :: u205 :: u206 :: u207 :: u208 :: u209 :: u210 :: u211 :: u212 :: u213 :: u214 :: u215 :: u216 :: u217 :: u218 :: u219 :: u220 :: u221 :: u222 :: u223 :: u224 :: u225 :: u226 :: u227 :: u228 :: u229 :: u230 :: u231 :: u232 :: u233 :: u234 :: u235 :: u236 :: u237 :: u238 :: u239 :: u240 :: u241 :: u242 :: u243 :: u244 :: u245 :: u246 :: u247 :: u248 :: u249 :: u250 :: u251 :: u252 :: u253 :: u254 :: u255 :: u256 :: u257 :: u258 :: u259 :: u260 :: u261 :: u262 :: u263 :: u264 :: u265 :: u266 :: u267 :: u268 :: u269 :: u270 :: u271 :: u272 :: u273 :: u274 :: u275 :: u276 :: u277 :: u278 :: u279 :: u280 :: u281 :: u282 :: u283 :: u284 :: u285 :: u286 :: u287 :: u288 :: u289 :: u290 :: u291 :: u292 :: u293 :: u294 :: u295 :: u296 :: u297 :: u298 :: u299 :: u300 :: u301 :: u302 :: u303 :: u304 :: u305 :: u306 :: u307 :: u308 :: u309 :: u310 :: u311 :: u312 :: u313 :: u314 :: u315 :: u316 :: u317 :: u318 :: u319 :: u320 :: u321 :: u322 :: u323 :: u324 :: u325 :: u326 :: u327 :: u328 :: u329 :: u330 :: u331 :: u332 :: u333 :: u334 :: u335 :: u336 :: u337 :: u338 :: u339 :: undef :: undef :: undef :: undef :: undef :: undef :: undef :: undef :: undef :: undef :: undef :: undef :: undef :: undef :: undef :: undef :: undef :: undef :: undef :: undef :: undef :: undef :: undef :: undef :: undef :: undef :: undef :: undef :: undef :: undef :: undef :: undef :: undef :: undef :: undef :: undef :: undef :: undef :: undef :: undef :: undef :: undef :: undef :: undef :: undef :: undef :: undef :: undef :: undef :: undef :: undef :: undef :: undef :: undef :: undef :: undef :: undef :: undef :: undef :: undef :: undef :: undef :: undef :: undef :: undef :: undef :: undef :: undef :: undef :: undef :: undef :: undef :: undef :: undef :: undef :: undef :: undef :: undef :: undef :: undef :: undef :: undef :: undef :: undef :: undef :: undef :: undef :: undef :: undef :: undef :: undef :: undef :: undef :: undef :: undef :: undef :: undef :: undef :: undef :: undef :: undef :: undef :: undef :: undef :: undef :: undef :: undef :: undef :: undef :: undef :: undef :: undef :: undef :: undef :: undef :: undef :: undef :: undef :: undef :: undef :: undef :: undef :: undef :: undef :: undef :: undef :: undef :: undef :: undef :: undef :: undef :: undef :: undef :: undef :: undef :: undef :: undef :: undef :: undef :: undef :: undef :: undef :: undef :: undef :: undef :: undef :: undef :: undef :: undef :: undef :: undef :: undef :: undef :: List.nil).toArray, []⟩ W := by
  conv => arg 2; whnf
  go_step
  go_step
  go_cut [] from 340 to 370 (fun wc => wc = W)
  case rest =>
    subst hcut
    rename World => W
    go_step
    exact law4_Cb a0 pa ma c0 pc q1 q2 q3 q4 M M3 P O1 O2 E1 E2 gen start y1 y2 en en2 c1 f1 c2 f2 w W B sM rO1 rO2 rE1 rE2 lOE1 lOE2 rA lM l3 lO lP l12 hy0 hy1 hz0 hz1 bO1 bO2 hnew1 hnew2 hcnt1 hcnt2 hmrk _ _ _ _ _ _ _ _ _ _ _ _ _ _ _ _ _ _ _ _ _ _ _ _ _ _ _ _ _ _ _ _ _ _ _ _ _ _ _ _ _ _ _ _ _ _ _ _ _ _ _ _ _ _ _ _ _ _ _ _ _ _ _ _ _ _ _ _ _ _ _ _ _ _ _ _ _ _ _ _ _ _ _ _ _ _ _ _ _ _ _ _ _ _ _ _ _ _ _ _ _ _ _ _ _ _ _ _ _ _ _ _ _ _ _ _ _ _ _ _ _ _ _ _ _ _ _ _ _ _ _ _ _ _ _ _ _ _ _ _ _ _ _ _ _ _ _ _ _ _ _ _ _ _ _ _ _ _ _ _ _ _ _ _ _ _ _ _ _ _ _ _ _ _ _ _ _ _ _ _ _ _ _ _ _ _ _ _ _ _ _ _ _ _ _ _ _ _ _ _ _ _ _ _ _ _ _ _ _ _ _ _ _ _ _ _ _ _ _ _ _ _ _ _ _ _ _ _ _ _ _ _ _ _ _ _ _ _ _ _ _ _ _ _ _ _ _ _ _ _ _ _ _ _ _ _ _ _ _ _ _ _ _ _ _ _ _ _ _ _ _ _ _ _ _ _ _ _ _ _ _ _ _ _ _ _ _ _ _ _ _ _ _ _ _ _ _ _ _ _ _ _ _ _ _ _ _ _ _ _ _ _ _ _ _ _ _ _ _ _ _ _ _ _ _ _ _ _ _ _ _ _ _ _ _ _ _
  case first =>
    have HNW : Hid (∀ j : Nat, P.length ≤ j → j < O1.length → E1[j]?.getD 0 = en ∧ 0 ≤ O1[j]?.getD 0 ∧ O1[j]?.getD 0 < M.length) := hnew1
    have HOE : Hid (E1.length = O1.length) := lOE1
    clear hcnt1 hcnt2 hmrk hnew1 hnew2 bO1 bO2 l3 rA sM lOE1 lOE2
    go_wp2_with fail
    go_loop [46] (fun i => ∃ k : Nat, P.length ≤ k ∧ k ≤ O1.length ∧ i = .int .i64 k) (fun i => O1.length - (intOf i).toNat)
    case atStart => exact ⟨P.length, Nat.le_refl _, by assumption, rfl⟩
    case round =>
      obtain ⟨k, hk0, hk, rfl⟩ := hrel
      by_cases hlt : k < O1.length
      · obtain ⟨q, hq, c1⟩ := rO1.look k _ (getD_some hlt)
        cases hq
        obtain ⟨q, hq, c2⟩ := rE1.look k _ (getD_some (by have := HOE.out; omega))
        cases hq
        obtain ⟨e1, e2, e3⟩ := HNW.out k hk0 hlt
        rw [e1] at c2
        obtain ⟨pv, hpv⟩ : ∃ pv, pv = O1[k]?.getD 0 := ⟨_, rfl⟩
        rw [← hpv] at c1 e2 e3
        clear hpv e1
        have hli : (k : Int) < (O1.length : Int) := by omega
        have d1 : decide (pv < 0) = false := decide_eq_false (by omega)
        have d2 : decide ((M.length : Int) ≤ pv) = false := decide_eq_false (by omega)
        go_wp2_with fail
        go_round
        case rel => exact ⟨k + 1, by omega, by omega, by go_num⟩
        case measure => simp [intOf]; omega
      · go_wp2_with fail
        go_meet
        case rel => rfl
end Go.Proofs.Qxb6613719aDoor
