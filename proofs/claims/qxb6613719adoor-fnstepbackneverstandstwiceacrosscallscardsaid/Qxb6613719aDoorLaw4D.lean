import Derived.Test.Qxb6613719aDoorL4G
namespace Go.Proofs.Qxb6613719aDoor
open Go.RowKit
set_option linter.unusedVariables false
theorem rowO_drop {w : World} {k : IntKind} {q : Nat} {zs : List Int} (r : Row w k (some ⟨q, 0, none⟩) zs) (n : Nat) : RowO w k (some ⟨q, n, none⟩) (zs.drop n) := ⟨fun j z hj => by
  rw [List.getElem?_drop] at hj
  obtain ⟨q', hq, hc⟩ := r.look _ z hj
  cases hq
  exact ⟨q, n, rfl, hc⟩⟩
theorem drop_bd (O : List Int) (n : Nat) (h : ∀ j : Nat, -2147483648 ≤ O[j]?.getD 0 ∧ O[j]?.getD 0 ≤ 2147483647) : ∀ j : Nat, -2147483648 ≤ (O.drop n)[j]?.getD 0 ∧ (O.drop n)[j]?.getD 0 ≤ 2147483647 := fun j => by rw [List.getElem?_drop]; exact h _
set_option maxRecDepth 1000000 in
set_option maxHeartbeats 8000000 in
theorem law4_D (a0 pa ma : Option Addr) (c0 pc q1 q2 : Nat) (M M3 P O1 O2 : List Int) (gen start y1 y2 : Int) (c1 f1 c2 f2 : Bool) (w W : World) (B : Below w.heap.size w W)
    (sM : RowO W .i64 a0 M) (rO1 : Row W .i32 (some ⟨q1, 0, none⟩) O1) (rO2 : Row W .i32 (some ⟨q2, 0, none⟩) O2) (rA : Row W .i64 ma M3)
    (lM : M.length ≤ 16384) (l3 : M3.length = M.length) (lO : O2.length ≤ 20000) (lP : P.length ≤ O1.length) (l12 : O1.length ≤ O2.length) (hy0 : 0 ≤ y1) (hy1 : y1 < 16384) (hz0 : 0 ≤ y2) (hz1 : y2 < 16384)
    (bO1 : ∀ j : Nat, -2147483648 ≤ O1[j]?.getD 0 ∧ O1[j]?.getD 0 ≤ 2147483647) (bO2 : ∀ j : Nat, -2147483648 ≤ O2[j]?.getD 0 ∧ O2[j]?.getD 0 ≤ 2147483647)
    (hcnt1 : ∀ x : Nat, x < M.length → countOf x (O1.drop P.length) = if reachB c1 f1 y1 start x = true ∧ ¬ M[x]?.getD 0 = gen then 1 else 0)
    (hcnt2 : ∀ x : Nat, x < M.length → countOf x (O2.drop O1.length) = if reachB c2 f2 y2 start x = true ∧ reachB c1 f1 y1 start x = false ∧ ¬ M[x]?.getD 0 = gen then 1 else 0)
    (hmrk : ∀ x : Nat, x < M.length → M3[x]?.getD 0 = if reachB c1 f1 y1 start x = true ∨ reachB c2 f2 y2 start x = true then gen else M[x]?.getD 0)
    (u3 u4 u5 u7 u8 u9 u10 u11 u24 u25 u26 u27 u28 u29 u36 u37 u38 u40 u42 u43 u44 u46 u47 u54 u55 u56 u57 u58 u59 u60 u61 u62 u63 u64 u65 u66 u67 u68 u69 u70 u71 u72 u73 u74 u75 u76 u77 u78 u79 u80 u81 u82 u83 u84 u85 u86 u87 u88 u89 u90 u91 u92 u93 u94 u95 u96 u97 u98 u99 u100 u101 u102 u103 u104 u105 u106 u107 u108 u109 u110 u111 u112 u113 u114 u115 u116 u117 u118 u119 u120 u121 u122 u123 u124 u125 u126 u127 u128 u129 u130 u131 u132 u133 u134 u135 u136 u137 u138 u139 u140 u141 u142 u143 u144 u145 u146 u147 u148 u149 u150 u151 u152 u153 u154 u155 u156 u157 u158 u159 u160 u161 u162 u163 u164 u165 u166 u167 u168 u169 u170 u171 u172 u173 u174 u175 u176 u177 u178 u179 u180 u181 u182 u183 u184 u185 u186 u187 u188 u189 u190 u191 u192 u193 u194 u195 u196 u197 u198 u199 u200 u201 u202 u203 u204 u205 u206 u207 u208 u209 u210 u211 u212 u213 u214 u215 u216 u217 u218 u219 u220 u221 u222 u223 u224 u225 u226 u227 u228 u229 u230 u231 u232 u233 u234 u235 u236 u237 u238 u239 u240 u241 u242 u243 u244 u245 u246 u247 u248 u249 u250 u251 u252 u253 u254 u255 u256 u257 u258 u259 u260 u261 u262 u263 u264 u265 u266 u267 u268 u269 u270 u271 u272 u273 u274 u275 u276 u277 u278 u279 u280 u281 u282 u283 u284 u285 u286 u287 u288 u289 u290 u291 u292 u293 u294 u295 u296 u297 u298 u299 u300 u301 u302 u303 u304 u305 u306 u307 u308 u309 u310 u311 u312 u313 u314 u315 u316 u317 u318 u319 u320 u321 u322 u323 u324 u325 u326 u327 u328 u329 u330 u331 u332 u333 u334 u335 u336 u337 u338 u339 u340 u341 u342 u343 u344 u345 u346 u347 u348 u349 u350 u351 u352 u353 u354 u355 u356 u357 u358 u359 u360 u361 u362 u363 u364 u365 u366 u367 u368 u369 u370 u371 u372 u373 u374 u375 u376 u377 u378 u379 u380 u381 u382 u383 u384 u385 u386 u387 u388 u389 u390 u391 u392 u393 u394 u395 u396 u397 u398 u399 u400 u401 : Value) :
    Code.wp Tryd.prog (seqTail 34 (Tryd.f4.body.getD .skip)) (bodyPost Tryd.prog Tryd.f4 (fun e w' => e = .returned (.bool true) ∧ Below w.heap.size w w'))
      ⟨(.slice a0 M.length c0 :: .int .i64 gen :: .int .i64 start :: u3 :: u4 :: u5 :: .slice pa P.length pc :: u7 :: u8 :: u9 :: u10 :: u11 :: undef :: undef :: undef :: undef :: undef :: undef :: undef :: undef :: undef :: undef :: undef :: undef :: u24 :: u25 :: u26 :: u27 :: u28 :: u29 :: .int .i64 y1 :: .int .i64 y2 :: .bool c1 :: .bool f1 :: .bool c2 :: .bool f2 :: u36 :: u37 :: u38 :: .slice (some ⟨q1, 0, none⟩) O1.length O1.length :: u40 :: .slice (some ⟨q2, 0, none⟩) O2.length O2.length :: u42 :: u43 :: u44 :: .slice ma M.length M.length :: u46 :: u47 :: undef :: undef :: undef :: undef :: undef :: undef :: u54 :: u55 :: u56 :: u57 :: u58 :: u59 :: u60 :: u61 :: u62 :: u63 :: u64 :: u65 :: u66 :: u67 :: u68 :: u69 :: u70 :: u71 :: u72 :: u73 :: u74 :: u75 :: u76 :: u77 :: u78 :: u79 :: u80 :: u81 :: u82 :: u83 :: u84 :: u85 :: u86 :: u87 :: u88 :: u89 :: u90 :: u91 :: u92 :: u93 :: u94 :: u95 :: u96 :: u97 :: u98 :: u99 :: u100 :: u101 :: u102 :: u103 :: u104 :: u105 :: u106 :: u107 :: u108 :: u109 :: u110 :: u111 :: u112 :: u113 :: u114 :: u115 :: u116 :: u117 :: u118 :: u119 :: u120 :: u121 :: u122 :: u123 :: u124 :: u125 :: u126 :: u127 :: u128 :: u129 :: u130 :: u131 :: u132 :: u133 :: u134 :: u135 :: u136 :: u137 :: u138 :: u139 :: u140 :: u141 :: u142 :: u143 :: u144 :: u145 :: u146 :: u147 :: u148 :: u149 :: u150 :: u151 :: u152 :: u153 :: u154 :: u155 :: u156 :: u157 :: u158 :: u159 :: u160 :: u161 :: u162 :: u163 :: u164 :: u165 :: u166 :: u167 :: u168 :: u169 :: u170 :: u171 :: u172 :: u173 :: u174 :: u175 :: u176 :: u177 :: u178 :: u179 :: u180 :: u181 :: u182 :: u183 :: u184 :: u185 :: u186 :: u187 :: u188 :: u189 :: u190 :: u191 :: u192 :: u193 :: u194 :: u195 :: u196 :: u197 :: u198 :: u199 :: u200 :: u201 :: u202 :: u203 :: u204 :: u205 :: u206 :: u207 :: u208 :: u209 :: u210 :: u211 :: u212 :: u213 :: u214 :: u215 :: u216 :: u217 :: u218 :: u219 :: u220 :: u221 :: u222 :: u223 :: u224 :: u225 :: u226 :: u227 :: u228 :: u229 :: u230 :: u231 :: u232 :: u233 :: u234 :: u235 :: u236 :: u237 :: u238 :: u239 :: u240 :: u241 :: u242 :: u243 :: u244 :: u245 :: u246 :: u247 :: u248 :: u249 :: u250 :: u251 :: u252 :: u253 :: u254 :: u255 :: u256 :: u257 :: u258 :: u259 :: u260 :: u261 :: u262 :: u263 :: u264 :: u265 :: u266 :: u267 :: u268 :: u269 :: u270 :: u271 :: u272 :: u273 :: u274 :: u275 :: u276 :: u277 :: u278 :: u279 :: u280 :: u281 :: u282 :: u283 :: u284 :: u285 :: u286 :: u287 :: u288 :: u289 :: u290 :: u291 :: u292 :: u293 :: u294 :: u295 :: u296 :: u297 :: u298 :: u299 :: u300 :: u301 :: u302 :: u303 :: u304 :: u305 :: u306 :: u307 :: u308 :: u309 :: u310 :: u311 :: u312 :: u313 :: u314 :: u315 :: u316 :: u317 :: u318 :: u319 :: u320 :: u321 :: u322 :: u323 :: u324 :: u325 :: u326 :: u327 :: u328 :: u329 :: u330 :: u331 :: u332 :: u333 :: u334 :: u335 :: u336 :: u337 :: u338 :: u339 :: u340 :: u341 :: u342 :: u343 :: u344 :: u345 :: u346 :: u347 :: u348 :: u349 :: u350 :: u351 :: u352 :: u353 :: u354 :: u355 :: u356 :: u357 :: u358 :: u359 :: u360 :: u361 :: u362 :: u363 :: u364 :: u365 :: u366 :: u367 :: u368 :: u369 :: u370 :: u371 :: u372 :: u373 :: u374 :: u375 :: u376 :: u377 :: u378 :: u379 :: u380 :: u381 :: u382 :: u383 :: u384 :: u385 :: u386 :: u387 :: u388 :: u389 :: u390 :: u391 :: u392 :: u393 :: u394 :: u395 :: u396 :: u397 :: u398 :: u399 :: u400 :: u401 :: undef :: undef :: undef :: undef :: undef :: undef :: undef :: undef :: undef :: undef :: undef :: undef :: undef :: undef :: undef :: undef :: undef :: undef :: undef :: undef :: undef :: undef :: undef :: undef :: undef :: undef :: undef :: undef :: undef :: undef :: undef :: undef :: undef :: undef :: undef :: undef :: undef :: undef :: undef :: undef :: undef :: undef :: undef :: undef :: undef :: undef :: undef :: undef :: undef :: undef :: undef :: undef :: undef :: undef :: undef :: undef :: undef :: undef :: undef :: undef :: undef :: undef :: undef :: undef :: undef :: undef :: undef :: undef :: undef :: undef :: undef :: undef :: undef :: undef :: undef :: undef :: undef :: undef :: undef :: undef :: undef :: undef :: undef :: undef :: undef :: undef :: undef :: undef :: undef :: undef :: undef :: List.nil).toArray, []⟩ W := by
  conv => arg 2; whnf
  go_wp2_with fail
  go_loop [48] (fun i => ∃ k : Nat, k ≤ M.length ∧ i = .int .i64 k) (fun i => M.length - (intOf i).toNat)
  case atStart => exact ⟨0, Nat.zero_le _, rfl⟩
  case round =>
    obtain ⟨k, hk, rfl⟩ := hrel
    by_cases hlt : k < M.length
    · have hli : (k : Int) < (M.length : Int) := by omega
      have hc1 := hcnt1 k hlt
      have hc2 := hcnt2 k hlt
      have hbd1 := drop_bd O1 P.length bO1
      have hbd2 := drop_bd O2 O1.length bO2
      obtain ⟨r1, hr1⟩ : ∃ r1, r1 = reachB c1 f1 y1 start k := ⟨_, rfl⟩
      obtain ⟨r2, hr2⟩ : ∃ r2, r2 = reachB c2 f2 y2 start k := ⟨_, rfl⟩
      obtain ⟨n1, hn1⟩ : ∃ n1 : Nat, n1 = if r1 = true ∧ ¬ M[k]?.getD 0 = gen then 1 else 0 := ⟨_, rfl⟩
      obtain ⟨n2, hn2⟩ : ∃ n2 : Nat, n2 = if r2 = true ∧ r1 = false ∧ ¬ M[k]?.getD 0 = gen then 1 else 0 := ⟨_, rfl⟩
      obtain ⟨m3, hm3⟩ : ∃ m3 : Int, m3 = if r1 = true ∨ r2 = true then gen else M[k]?.getD 0 := ⟨_, rfl⟩
      obtain ⟨qa, hqa, cA⟩ := rA.look k _ (getD_some (by omega))
      rw [hmrk k hlt, ← hr1, ← hr2, ← hm3] at cA
      subst hqa
      rw [← hr1, ← hn1] at hc1
      rw [← hr1, ← hr2, ← hn2] at hc2
      have hn1b : n1 ≤ 1 := by rw [hn1]; split <;> omega
      have hn2b : n2 ≤ 1 := by rw [hn2]; split <;> omega
      have RC1 : RowO W .i32 (some ⟨q1, P.length, none⟩) (O1.drop P.length) := rowO_drop rO1 _
      have RC2 : RowO W .i32 (some ⟨q2, O1.length, none⟩) (O2.drop O1.length) := rowO_drop rO2 _
      have hdl1 : (O1.drop P.length).length = O1.length - P.length := List.length_drop
      have hdl2 : (O2.drop O1.length).length = O2.length - O1.length := List.length_drop
      have hnA : ¬ P.length < O1.length → O1.drop P.length = [] := fun h => List.eq_nil_of_length_eq_zero (by omega)
      have hnB : ¬ O1.length < O2.length → O2.drop O1.length = [] := fun h => List.eq_nil_of_length_eq_zero (by omega)
      have CT1 : ∀ a, (P.length < O1.length → a = some ⟨q1, P.length, none⟩) → Calls Tryd.prog 13 #[.slice a (O1.length - P.length) (O1.length - P.length), .int .i64 (k : Int)] W fun e w' => e = .returned (.int .i64 n1) ∧ w' = W := by
        intro a ha
        have := count_any a (O1.length - P.length) (O1.drop P.length) k W (by omega) hbd1 (by
          by_cases hA : P.length < O1.length
          · rw [ha hA]; exact RC1
          · rw [hnA hA]; exact ⟨fun j z hj => by simp at hj⟩)
        rw [hdl1, hc1] at this
        exact this
      have CT2 : ∀ a, (O1.length < O2.length → a = some ⟨q2, O1.length, none⟩) → Calls Tryd.prog 13 #[.slice a (O2.length - O1.length) (O2.length - O1.length), .int .i64 (k : Int)] W fun e w' => e = .returned (.int .i64 n2) ∧ w' = W := by
        intro a ha
        have := count_any a (O2.length - O1.length) (O2.drop O1.length) k W (by omega) hbd2 (by
          by_cases hA : O1.length < O2.length
          · rw [ha hA]; exact RC2
          · rw [hnB hA]; exact ⟨fun j z hj => by simp at hj⟩)
        rw [hdl2, hc2] at this
        exact this
      have HCT : Hid ((∀ a, (P.length < O1.length → a = some ⟨q1, P.length, none⟩) → Calls Tryd.prog 13 #[.slice a (O1.length - P.length) (O1.length - P.length), .int .i64 (k : Int)] W fun e w' => e = .returned (.int .i64 n1) ∧ w' = W) ∧
         (∀ a, (O1.length < O2.length → a = some ⟨q2, O1.length, none⟩) → Calls Tryd.prog 13 #[.slice a (O2.length - O1.length) (O2.length - O1.length), .int .i64 (k : Int)] W fun e w' => e = .returned (.int .i64 n2) ∧ w' = W)) := ⟨CT1, CT2⟩
      have HEQ : Hid ((r1 = reachB c1 f1 y1 start k ∧ r2 = reachB c2 f2 y2 start k) ∧ (n1 = if r1 = true ∧ ¬ M[k]?.getD 0 = gen then 1 else 0) ∧ (n2 = if r2 = true ∧ r1 = false ∧ ¬ M[k]?.getD 0 = gen then 1 else 0) ∧ (m3 = if r1 = true ∨ r2 = true then gen else M[k]?.getD 0)) := ⟨⟨hr1, hr2⟩, hn1, hn2, hm3⟩
      clear CT1 CT2 hnA hnB hdl1 hdl2 RC1 RC2 hbd1 hbd2 hc1 hc2 hcnt1 hcnt2 hmrk bO1 bO2 hr1 hr2 hn1 hn2 hm3 rO1 rO2 rA
      have hk2 : k < 16384 := by omega
      go_upto_if 405 with fail
      go_step
      go_step
      go_step
      go_step
      go_step
      go_step
      refine g73 _ _ k start y1 c1 f1 W hk2 hy0 hy1 _ _ _ _ _ _ _ _ _ _ _ _ _ _ _ _ _ _ _ _ _ _ _ _ _ _ _ _ _ _ _ _ _ _ _ _ _ _ _ _ _ _ _ _ _ _ _ _ _ _ _ _ _ _ _ _ _ _ _ _ _ _ _ _ _ _ _ _ _ _ _ _ _ _ _ _ _ _ _ _ _ _ _ _ _ _ _ _ _ _ _ _ _ _ _ _ _ _ _ _ _ _ _ _ _ _ _ _ _ _ _ _ _ _ _ _ _ _ _ _ _ _ _ _ _ _ _ _ _ _ _ _ _ _ _ _ _ _ _ _ _ _ _ _ _ _ _ _ _ _ _ _ _ _ _ _ _ _ _ _ _ _ _ _ _ _ _ _ _ _ _ _ _ _ _ _ _ _ _ _ _ _ _ _ _ _ _ _ _ _ _ _ _ _ _ _ _ _ _ _ _ _ _ _ _ _ _ _ _ _ _ _ _ _ _ _ _ _ _ _ _ _ _ _ _ _ _ _ _ _ _ _ _ _ _ _ _ _ _ _ _ _ _ _ _ _ _ _ _ _ _ _ _ _ _ _ _ _ _ _ _ _ _ _ _ _ _ _ _ _ _ _ _ _ _ _ _ _ _ _ _ _ _ _ _ _ _ _ _ _ _ _ _ _ _ _ _ _ _ _ _ _ _ _ _ _ _ _ _ _ _ _ _ _ _ _ _ _ _ _ _ _ _ _ _ _ _ _ _ _ _ _ _ _ _ _ _ _ _ _ _ _ _ _ _ _ _ _ _ _ _ _ _ _ _ _ _ _ _ _ _ _ _ _ _ _ _ _ _ _ _ _ _ _ _ _ _ _ _ _ _ _ _ _ _ _ _ _ _ _ _ _ _ _ _ _ _ _ _ _ _ _ _ _ _ _ _ _ _ _ _ _ _ _ _ _ _ _ _ _ _ _ _ _ _ _ _ _ _ _ _ _ _ _ _ _ _ _ _ _ _ _ _ _ _ _ _ _ _ _ _ _ _ _ _ _ _ _ _ _ _ _ _ _ _ _ _ _ _ _ _ _ _ _ _ _ _ _ _ _ _ _ _ _ _ _ _ _ ?_
      intro x408 x409 x410 x411 x412 x413 x414 x415 x416 x417 x418 x419 x420 x421 x422
      rw [← HEQ.out.1.1]
      refine g74 _ _ k start y2 c2 f2 W hk2 hz0 hz1 _ _ _ _ _ _ _ _ _ _ _ _ _ _ _ _ _ _ _ _ _ _ _ _ _ _ _ _ _ _ _ _ _ _ _ _ _ _ _ _ _ _ _ _ _ _ _ _ _ _ _ _ _ _ _ _ _ _ _ _ _ _ _ _ _ _ _ _ _ _ _ _ _ _ _ _ _ _ _ _ _ _ _ _ _ _ _ _ _ _ _ _ _ _ _ _ _ _ _ _ _ _ _ _ _ _ _ _ _ _ _ _ _ _ _ _ _ _ _ _ _ _ _ _ _ _ _ _ _ _ _ _ _ _ _ _ _ _ _ _ _ _ _ _ _ _ _ _ _ _ _ _ _ _ _ _ _ _ _ _ _ _ _ _ _ _ _ _ _ _ _ _ _ _ _ _ _ _ _ _ _ _ _ _ _ _ _ _ _ _ _ _ _ _ _ _ _ _ _ _ _ _ _ _ _ _ _ _ _ _ _ _ _ _ _ _ _ _ _ _ _ _ _ _ _ _ _ _ _ _ _ _ _ _ _ _ _ _ _ _ _ _ _ _ _ _ _ _ _ _ _ _ _ _ _ _ _ _ _ _ _ _ _ _ _ _ _ _ _ _ _ _ _ _ _ _ _ _ _ _ _ _ _ _ _ _ _ _ _ _ _ _ _ _ _ _ _ _ _ _ _ _ _ _ _ _ _ _ _ _ _ _ _ _ _ _ _ _ _ _ _ _ _ _ _ _ _ _ _ _ _ _ _ _ _ _ _ _ _ _ _ _ _ _ _ _ _ _ _ _ _ _ _ _ _ _ _ _ _ _ _ _ _ _ _ _ _ _ _ _ _ _ _ _ _ _ _ _ _ _ _ _ _ _ _ _ _ _ _ _ _ _ _ _ _ _ _ _ _ _ _ _ _ _ _ _ _ _ _ _ _ _ _ _ _ _ _ _ _ _ _ _ _ _ _ _ _ _ _ _ _ _ _ _ _ _ _ _ _ _ _ _ _ _ _ _ _ _ _ _ _ _ _ _ _ _ _ _ _ _ _ _ _ _ _ _ _ _ _ _ _ _ _ _ _ _ _ _ _ _ _ _ _ _ _ _ _ _ ?_
      intro x423 x424 x425 x426 x427 x428 x429 x430 x431 x432 x433 x434 x435 x436 x437
      rw [← HEQ.out.1.2]
      refine g75 _ _ k n1 c0 gen a0 M r1 W sM hlt lM HEQ.out.2.1 _ _ _ _ _ _ _ _ _ _ _ _ _ _ _ _ _ _ _ _ _ _ _ _ _ _ _ _ _ _ _ _ _ _ _ _ _ _ _ _ _ _ _ _ _ _ _ _ _ _ _ _ _ _ _ _ _ _ _ _ _ _ _ _ _ _ _ _ _ _ _ _ _ _ _ _ _ _ _ _ _ _ _ _ _ _ _ _ _ _ _ _ _ _ _ _ _ _ _ _ _ _ _ _ _ _ _ _ _ _ _ _ _ _ _ _ _ _ _ _ _ _ _ _ _ _ _ _ _ _ _ _ _ _ _ _ _ _ _ _ _ _ _ _ _ _ _ _ _ _ _ _ _ _ _ _ _ _ _ _ _ _ _ _ _ _ _ _ _ _ _ _ _ _ _ _ _ _ _ _ _ _ _ _ _ _ _ _ _ _ _ _ _ _ _ _ _ _ _ _ _ _ _ _ _ _ _ _ _ _ _ _ _ _ _ _ _ _ _ _ _ _ _ _ _ _ _ _ _ _ _ _ _ _ _ _ _ _ _ _ _ _ _ _ _ _ _ _ _ _ _ _ _ _ _ _ _ _ _ _ _ _ _ _ _ _ _ _ _ _ _ _ _ _ _ _ _ _ _ _ _ _ _ _ _ _ _ _ _ _ _ _ _ _ _ _ _ _ _ _ _ _ _ _ _ _ _ _ _ _ _ _ _ _ _ _ _ _ _ _ _ _ _ _ _ _ _ _ _ _ _ _ _ _ _ _ _ _ _ _ _ _ _ _ _ _ _ _ _ _ _ _ _ _ _ _ _ _ _ _ _ _ _ _ _ _ _ _ _ _ _ _ _ _ _ _ _ _ _ _ _ _ _ _ _ _ _ _ _ _ _ _ _ _ _ _ _ _ _ _ _ _ _ _ _ _ _ _ _ _ _ _ _ _ _ _ _ _ _ _ _ _ _ _ _ _ _ _ _ _ _ _ _ _ _ _ _ _ _ _ _ _ _ _ _ _ _ _ _ _ _ _ _ _ _ _ _ _ _ _ _ _ _ _ _ _ _ _ _ _ _ _ _ _ _ _ _ _ _ _ _ _ _ _ _ _ _ _ _ ?_
      intro x438 x439 x440 x441 x442 x443 x444 x445 x446
      refine g78 _ _ k n2 c0 gen a0 M r1 r2 W sM hlt lM HEQ.out.2.2.1 _ _ _ _ _ _ _ _ _ _ _ _ _ _ _ _ _ _ _ _ _ _ _ _ _ _ _ _ _ _ _ _ _ _ _ _ _ _ _ _ _ _ _ _ _ _ _ _ _ _ _ _ _ _ _ _ _ _ _ _ _ _ _ _ _ _ _ _ _ _ _ _ _ _ _ _ _ _ _ _ _ _ _ _ _ _ _ _ _ _ _ _ _ _ _ _ _ _ _ _ _ _ _ _ _ _ _ _ _ _ _ _ _ _ _ _ _ _ _ _ _ _ _ _ _ _ _ _ _ _ _ _ _ _ _ _ _ _ _ _ _ _ _ _ _ _ _ _ _ _ _ _ _ _ _ _ _ _ _ _ _ _ _ _ _ _ _ _ _ _ _ _ _ _ _ _ _ _ _ _ _ _ _ _ _ _ _ _ _ _ _ _ _ _ _ _ _ _ _ _ _ _ _ _ _ _ _ _ _ _ _ _ _ _ _ _ _ _ _ _ _ _ _ _ _ _ _ _ _ _ _ _ _ _ _ _ _ _ _ _ _ _ _ _ _ _ _ _ _ _ _ _ _ _ _ _ _ _ _ _ _ _ _ _ _ _ _ _ _ _ _ _ _ _ _ _ _ _ _ _ _ _ _ _ _ _ _ _ _ _ _ _ _ _ _ _ _ _ _ _ _ _ _ _ _ _ _ _ _ _ _ _ _ _ _ _ _ _ _ _ _ _ _ _ _ _ _ _ _ _ _ _ _ _ _ _ _ _ _ _ _ _ _ _ _ _ _ _ _ _ _ _ _ _ _ _ _ _ _ _ _ _ _ _ _ _ _ _ _ _ _ _ _ _ _ _ _ _ _ _ _ _ _ _ _ _ _ _ _ _ _ _ _ _ _ _ _ _ _ _ _ _ _ _ _ _ _ _ _ _ _ _ _ _ _ _ _ _ _ _ _ _ _ _ _ _ _ _ _ _ _ _ _ _ _ _ _ _ _ _ _ _ _ _ _ _ _ _ _ _ _ _ _ _ _ _ _ _ _ _ _ _ _ _ _ _ _ _ _ _ _ _ _ _ _ _ _ _ _ _ _ _ _ _ _ _ _ _ ?_
      intro x447 x448 x449 x450 x451 x452 x453 x454 x455 x456 x457 x458 x459
      refine g81 _ _ k n1 n2 pc q1 q2 pa P O1 O2 W hk2 hn1b hn2b lO lP l12 HCT.out.1 HCT.out.2 _ _ _ _ _ _ _ _ _ _ _ _ _ _ _ _ _ _ _ _ _ _ _ _ _ _ _ _ _ _ _ _ _ _ _ _ _ _ _ _ _ _ _ _ _ _ _ _ _ _ _ _ _ _ _ _ _ _ _ _ _ _ _ _ _ _ _ _ _ _ _ _ _ _ _ _ _ _ _ _ _ _ _ _ _ _ _ _ _ _ _ _ _ _ _ _ _ _ _ _ _ _ _ _ _ _ _ _ _ _ _ _ _ _ _ _ _ _ _ _ _ _ _ _ _ _ _ _ _ _ _ _ _ _ _ _ _ _ _ _ _ _ _ _ _ _ _ _ _ _ _ _ _ _ _ _ _ _ _ _ _ _ _ _ _ _ _ _ _ _ _ _ _ _ _ _ _ _ _ _ _ _ _ _ _ _ _ _ _ _ _ _ _ _ _ _ _ _ _ _ _ _ _ _ _ _ _ _ _ _ _ _ _ _ _ _ _ _ _ _ _ _ _ _ _ _ _ _ _ _ _ _ _ _ _ _ _ _ _ _ _ _ _ _ _ _ _ _ _ _ _ _ _ _ _ _ _ _ _ _ _ _ _ _ _ _ _ _ _ _ _ _ _ _ _ _ _ _ _ _ _ _ _ _ _ _ _ _ _ _ _ _ _ _ _ _ _ _ _ _ _ _ _ _ _ _ _ _ _ _ _ _ _ _ _ _ _ _ _ _ _ _ _ _ _ _ _ _ _ _ _ _ _ _ _ _ _ _ _ _ _ _ _ _ _ _ _ _ _ _ _ _ _ _ _ _ _ _ _ _ _ _ _ _ _ _ _ _ _ _ _ _ _ _ _ _ _ _ _ _ _ _ _ _ _ _ _ _ _ _ _ _ _ _ _ _ _ _ _ _ _ _ _ _ _ _ _ _ _ _ _ _ _ _ _ _ _ _ _ _ _ _ _ _ _ _ _ _ _ _ _ _ _ _ _ _ _ _ _ _ _ _ _ _ _ _ _ _ _ _ _ _ _ _ _ _ _ _ _ _ _ _ _ _ _ _ _ _ _ _ _ _ _ _ _ _ _ _ _ _ _ _ _ _ _ _ _ ?_
      intro x460 x461 x462 x463 x464 x465 x466 x467 x468 x469 x470 x471 x472 x473 x474 x475 x476 x477
      refine g83 _ _ k c0 gen m3 a0 M r1 r2 W sM hlt lM HEQ.out.2.2.2 _ _ _ _ _ _ _ _ _ _ _ _ _ _ _ _ _ _ _ _ _ _ _ _ _ _ _ _ _ _ _ _ _ _ _ _ _ _ _ _ _ _ _ _ _ _ _ _ _ _ _ _ _ _ _ _ _ _ _ _ _ _ _ _ _ _ _ _ _ _ _ _ _ _ _ _ _ _ _ _ _ _ _ _ _ _ _ _ _ _ _ _ _ _ _ _ _ _ _ _ _ _ _ _ _ _ _ _ _ _ _ _ _ _ _ _ _ _ _ _ _ _ _ _ _ _ _ _ _ _ _ _ _ _ _ _ _ _ _ _ _ _ _ _ _ _ _ _ _ _ _ _ _ _ _ _ _ _ _ _ _ _ _ _ _ _ _ _ _ _ _ _ _ _ _ _ _ _ _ _ _ _ _ _ _ _ _ _ _ _ _ _ _ _ _ _ _ _ _ _ _ _ _ _ _ _ _ _ _ _ _ _ _ _ _ _ _ _ _ _ _ _ _ _ _ _ _ _ _ _ _ _ _ _ _ _ _ _ _ _ _ _ _ _ _ _ _ _ _ _ _ _ _ _ _ _ _ _ _ _ _ _ _ _ _ _ _ _ _ _ _ _ _ _ _ _ _ _ _ _ _ _ _ _ _ _ _ _ _ _ _ _ _ _ _ _ _ _ _ _ _ _ _ _ _ _ _ _ _ _ _ _ _ _ _ _ _ _ _ _ _ _ _ _ _ _ _ _ _ _ _ _ _ _ _ _ _ _ _ _ _ _ _ _ _ _ _ _ _ _ _ _ _ _ _ _ _ _ _ _ _ _ _ _ _ _ _ _ _ _ _ _ _ _ _ _ _ _ _ _ _ _ _ _ _ _ _ _ _ _ _ _ _ _ _ _ _ _ _ _ _ _ _ _ _ _ _ _ _ _ _ _ _ _ _ _ _ _ _ _ _ _ _ _ _ _ _ _ _ _ _ _ _ _ _ _ _ _ _ _ _ _ _ _ _ _ _ _ _ _ _ _ _ _ _ _ _ _ _ _ _ _ _ _ _ _ _ _ _ _ _ _ _ _ _ _ _ _ _ _ _ _ _ _ _ _ _ _ ?_
      intro x478 x479 x480 x481 x482 x483 x484 x485 x486
      have hmm : (m3 != m3) = false := by simp
      clear sM HCT HEQ
      go_wp2_with fail
      go_round
      case rel => exact ⟨k + 1, by omega, by go_num⟩
      case measure => simp [intOf]; omega
    · go_wp2_with fail
      go_ret
      exact ⟨rfl, B⟩
end Go.Proofs.Qxb6613719aDoor
