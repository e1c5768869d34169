import Derived.Test.Qxb6613719aDoorLaw4Bc
namespace Go.Proofs.Qxb6613719aDoor
open Go.RowKit
set_option linter.unusedVariables false
set_option maxRecDepth 1000000 in
set_option maxHeartbeats 4000000 in
theorem law4_T47 (a0 fa ca ja pa ea : Option Addr) (c0 fc cc jc pc ec : Nat) (M F C J P E : List Int) (gen start en en2 : Int) (y1 y2 : Nat) (c1 f1 c2 f2 : Bool) (w W : World) (B : Below w.heap.size w W)
    (sM : RowO W .i64 a0 M) (nM : a0 = none → M.length = 0) (rF : Row W .u64 fa F) (rC : Row W .u64 ca C) (rJ : Row W .i32 ja J) (rP : Row W .i32 pa P) (rE : Row W .i64 ea E)
    (qF : ∀ q, fa = some ⟨q, 0, none⟩ → q < W.heap.size) (qC : ∀ q, ca = some ⟨q, 0, none⟩ → q < W.heap.size) (qJ : ∀ q, ja = some ⟨q, 0, none⟩ → q < W.heap.size)
    (qP : ∀ q, pa = some ⟨q, 0, none⟩ → q < W.heap.size) (qE : ∀ q, ea = some ⟨q, 0, none⟩ → q < W.heap.size)
    (HB : Hid ((∀ j : Nat, 0 ≤ F[j]?.getD 0 ∧ F[j]?.getD 0 ≤ 18446744073709551615) ∧ (∀ j : Nat, 0 ≤ C[j]?.getD 0 ∧ C[j]?.getD 0 ≤ 18446744073709551615) ∧ (∀ j : Nat, -2147483648 ≤ P[j]?.getD 0 ∧ P[j]?.getD 0 ≤ 2147483647) ∧ E.length = P.length))
    (lM : M.length ≤ 16384) (lF : F.length ≤ 4096) (lC : C.length ≤ 4096) (lJ : J.length ≤ 16384) (lP : P.length ≤ 16384)
    (hy1 : y1 < 16384) (hy2 : y2 < 16384) (HJ1 : Hid (y1 < J.length ∧ J[y1]?.getD 0 < 0)) (HJ2 : Hid (y2 < J.length ∧ J[y2]?.getD 0 < 0)) (hF1 : y1 / 64 < F.length) (hF2 : y2 / 64 < F.length) (HC1 : Hid (0 < y1 → (y1 - 1) / 64 < C.length)) (HC2 : Hid (0 < y2 → (y2 - 1) / 64 < C.length)) (EB : Hid (c1 = chainB C y1 ∧ f1 = bitAt F y1 ∧ c2 = chainB C y2 ∧ f2 = bitAt F y2)) (HM1 : Hid (c1 = true → (y1 : Int) - 1 < M.length)) (HM2 : Hid (c2 = true → (y2 : Int) - 1 < M.length))
    (u24 u25 u26 u27 u28 u29 u54 u55 u56 u57 u58 u59 u60 u61 u62 u63 u64 u65 u66 u67 u68 u69 u70 u71 u72 u73 u74 u75 u76 u77 u78 u79 u80 u81 u82 u83 u84 u85 u86 u87 u88 u89 u90 u91 u92 u93 u94 u95 u96 u97 u98 u99 u100 u101 u102 u103 u104 u105 u106 u107 u108 u109 u110 u111 u112 u113 u114 u115 u116 u117 u118 u119 u120 u121 u122 u123 u124 u125 u126 u127 u128 u129 u130 u131 u132 u133 u134 u135 u136 u137 u138 u139 u140 u141 u142 u143 u144 u145 u146 u147 u148 u149 u150 u151 u152 u153 u154 u155 u156 u157 u158 u159 u160 u161 u162 u163 u164 u165 u166 u167 u168 u169 u170 u171 u172 u173 u174 u175 u176 u177 u178 u179 u180 u181 u182 u183 u184 u185 u186 u187 u188 u189 u190 u191 u192 u193 u194 u195 u196 u197 u198 u199 u200 u201 u202 u203 u204 u205 u206 u207 u208 u209 u210 u211 u212 u213 u214 u215 u216 u217 u218 u219 u220 u221 u222 u223 u224 u225 u226 u227 u228 u229 u230 u231 u232 u233 u234 u235 u236 u237 u238 u239 u240 u241 u242 u243 u244 u245 u246 u247 u248 u249 : Value) :
    Code.wp Tryd.prog (seqTail 22 (Tryd.f4.body.getD .skip)) (bodyPost Tryd.prog Tryd.f4 (fun e w' => e = .returned (.bool true) ∧ Below w.heap.size w w'))
      ⟨(.slice a0 M.length c0 :: .int .i64 gen :: .int .i64 start :: .slice fa F.length fc :: .slice ca C.length cc :: .slice ja J.length jc :: .slice pa P.length pc :: .slice ea P.length ec :: .int .i32 y1 :: .int .i64 en :: .int .i32 y2 :: .int .i64 en2 :: undef :: undef :: undef :: undef :: undef :: undef :: undef :: undef :: undef :: undef :: undef :: undef :: u24 :: u25 :: u26 :: u27 :: u28 :: u29 :: .int .i64 y1 :: .int .i64 y2 :: .bool c1 :: .bool f1 :: .bool c2 :: .bool f2 :: undef :: undef :: undef :: undef :: undef :: undef :: undef :: undef :: undef :: undef :: undef :: undef :: undef :: undef :: undef :: undef :: undef :: undef :: u54 :: u55 :: u56 :: u57 :: u58 :: u59 :: u60 :: u61 :: u62 :: u63 :: u64 :: u65 :: u66 :: u67 :: u68 :: u69 :: u70 :: u71 :: u72 :: u73 :: u74 :: u75 :: u76 :: u77 :: u78 :: u79 :: u80 :: u81 :: u82 :: u83 :: u84 :: u85 :: u86 :: u87 :: u88 :: u89 :: u90 :: u91 :: u92 :: u93 :: u94 :: u95 :: u96 :: u97 :: u98 :: u99 :: u100 :: u101 :: u102 :: u103 :: u104 :: u105 :: u106 :: u107 :: u108 :: u109 :: u110 :: u111 :: u112 :: u113 :: u114 :: u115 :: u116 :: u117 :: u118 :: u119 :: u120 :: u121 :: u122 :: u123 :: u124 :: u125 :: u126 :: u127 :: u128 :: u129 :: u130 :: u131 :: u132 :: u133 :: u134 :: u135 :: u136 :: u137 :: u138 :: u139 :: u140 :: u141 :: u142 :: u143 :: u144 :: u145 :: u146 :: u147 :: u148 :: u149 :: u150 :: u151 :: u152 :: u153 :: u154 :: u155 :: u156 :: u157 :: u158 :: u159 :: u160 :: u161 :: u162 :: u163 :: u164 :: u165 :: u166 :: u167 :: u168 :: u169 :: u170 :: u171 :: u172 :: u173 :: u174 :: u175 :: u176 :: u177 :: u178 :: u179 :: u180 :: u181 :: u182 :: u183 :: u184 :: u185 :: u186 :: u187 :: u188 :: u189 :: u190 :: u191 :: u192 :: u193 :: u194 :: u195 :: u196 :: u197 :: u198 :: u199 :: u200 :: u201 :: u202 :: u203 :: u204 :: u205 :: u206 :: u207 :: u208 :: u209 :: u210 :: u211 :: u212 :: u213 :: u214 :: u215 :: u216 :: u217 :: u218 :: u219 :: u220 :: u221 :: u222 :: u223 :: u224 :: u225 :: u226 :: u227 :: u228 :: u229 :: u230 :: u231 :: u232 :: u233 :: u234 :: u235 :: u236 :: u237 :: u238 :: u239 :: u240 :: u241 :: u242 :: u243 :: u244 :: u245 :: u246 :: u247 :: u248 :: u249 :: undef :: undef :: undef :: undef :: undef :: undef :: undef :: undef :: undef :: undef :: undef :: undef :: undef :: undef :: undef :: undef :: undef :: undef :: undef :: undef :: undef :: undef :: undef :: undef :: undef :: undef :: undef :: undef :: undef :: undef :: undef :: undef :: undef :: undef :: undef :: undef :: undef :: undef :: undef :: undef :: undef :: undef :: undef :: undef :: undef :: undef :: undef :: undef :: undef :: undef :: undef :: undef :: undef :: undef :: undef :: undef :: undef :: undef :: undef :: undef :: undef :: undef :: undef :: undef :: undef :: undef :: undef :: undef :: undef :: undef :: undef :: undef :: undef :: undef :: undef :: undef :: undef :: undef :: undef :: undef :: undef :: undef :: undef :: undef :: undef :: undef :: undef :: undef :: undef :: undef :: undef :: undef :: undef :: undef :: undef :: undef :: undef :: undef :: undef :: undef :: undef :: undef :: undef :: undef :: undef :: undef :: undef :: undef :: undef :: undef :: undef :: undef :: undef :: undef :: undef :: undef :: undef :: undef :: undef :: undef :: undef :: undef :: undef :: undef :: undef :: undef :: undef :: undef :: undef :: undef :: undef :: undef :: undef :: undef :: undef :: undef :: undef :: undef :: undef :: undef :: undef :: undef :: undef :: undef :: undef :: undef :: undef :: undef :: undef :: undef :: undef :: undef :: undef :: undef :: undef :: undef :: undef :: undef :: undef :: undef :: undef :: undef :: undef :: undef :: undef :: undef :: undef :: undef :: undef :: undef :: undef :: undef :: undef :: undef :: undef :: undef :: undef :: undef :: undef :: undef :: undef :: undef :: undef :: undef :: undef :: undef :: undef :: undef :: undef :: undef :: undef :: undef :: undef :: undef :: undef :: undef :: undef :: undef :: undef :: undef :: undef :: undef :: undef :: undef :: undef :: undef :: undef :: undef :: undef :: undef :: undef :: undef :: undef :: undef :: undef :: undef :: undef :: undef :: undef :: undef :: undef :: undef :: undef :: undef :: undef :: undef :: undef :: undef :: undef :: undef :: undef :: undef :: undef :: undef :: undef :: undef :: undef :: undef :: undef :: undef :: undef :: undef :: undef :: List.nil).toArray, []⟩ W := by
  conv => arg 2; whnf
  have LL : (bitAt F y1 = true → 0 ≤ start ∧ start < M.length) → (bitAt F y2 = true → 0 ≤ start ∧ start < M.length) → _ := fun h1 h2 => law4_B4c a0 fa ca ja pa ea c0 fc cc jc pc ec M F C J P E gen start en en2 y1 y2 w W B sM nM rF rC rJ rP rE qF qC qJ qP qE HB.out.1 HB.out.2.1 HB.out.2.2.1 lM lP HB.out.2.2.2 hy1 hy2 HJ1.out.1 HJ1.out.2 hF1 HC1.out HJ2.out.1 HJ2.out.2 hF2 HC2.out (fun h => HM1.out (EB.out.1.trans h)) h1 (fun h => HM2.out (EB.out.2.2.1.trans h)) h2
  rw [← EB.out.1, ← EB.out.2.1, ← EB.out.2.2.1, ← EB.out.2.2.2] at LL
  cases f1
  · cases f2
    · have L := LL (fun h => by cases h) (fun h => by cases h)
      clear LL
      go_upto_if 263 with fail
      go_step
      go_step
      go_step
      go_step
      exact L _ _ _ _ _ _ _ _ _ _ _ _ _ _ _ _ _ _ _ _ _ _ _ _ _ _ _ _ _ _ _ _ _ _ _ _ _ _ _ _ _ _ _ _ _ _ _ _ _ _ _ _ _ _ _ _ _ _ _ _ _ _ _ _ _ _ _ _ _ _ _ _ _ _ _ _ _ _ _ _ _ _ _ _ _ _ _ _ _ _ _ _ _ _ _ _ _ _ _ _ _ _ _ _ _ _ _ _ _ _ _ _ _ _ _ _ _ _ _ _ _ _ _ _ _ _ _ _ _ _ _ _ _ _ _ _ _ _ _ _ _ _ _ _ _ _ _ _ _ _ _ _ _ _ _ _ _ _ _ _ _ _ _ _ _ _ _ _ _ _ _ _ _ _ _ _ _ _ _ _ _ _ _ _ _ _ _ _ _ _ _ _ _ _ _ _ _ _ _ _ _ _ _ _ _ _ _ _ _ _ _ _ _ _ _ _
    ·
      by_cases hs : 0 ≤ start ∧ start < M.length
      · have e1 : decide (start < 0) = false := decide_eq_false (by omega)
        have e2 : decide ((M.length : Int) ≤ start) = false := decide_eq_false (by omega)
        have L := LL (fun _ => hs) (fun _ => hs)
        clear LL
        go_upto_if 263 with fail
        go_step
        go_step
        go_step
        go_step
        exact L _ _ _ _ _ _ _ _ _ _ _ _ _ _ _ _ _ _ _ _ _ _ _ _ _ _ _ _ _ _ _ _ _ _ _ _ _ _ _ _ _ _ _ _ _ _ _ _ _ _ _ _ _ _ _ _ _ _ _ _ _ _ _ _ _ _ _ _ _ _ _ _ _ _ _ _ _ _ _ _ _ _ _ _ _ _ _ _ _ _ _ _ _ _ _ _ _ _ _ _ _ _ _ _ _ _ _ _ _ _ _ _ _ _ _ _ _ _ _ _ _ _ _ _ _ _ _ _ _ _ _ _ _ _ _ _ _ _ _ _ _ _ _ _ _ _ _ _ _ _ _ _ _ _ _ _ _ _ _ _ _ _ _ _ _ _ _ _ _ _ _ _ _ _ _ _ _ _ _ _ _ _ _ _ _ _ _ _ _ _ _ _ _ _ _ _ _ _ _ _ _ _ _ _ _ _ _ _ _ _ _ _ _ _ _ _
      · clear LL
        by_cases hs0 : start < 0
        · have e1 : decide (start < 0) = true := decide_eq_true hs0
          go_wp2_with fail
          go_ret
          exact ⟨rfl, B⟩
        · have e1 : decide (start < 0) = false := decide_eq_false hs0
          have e2 : decide ((M.length : Int) ≤ start) = true := decide_eq_true (by omega)
          go_wp2_with fail
          go_ret
          exact ⟨rfl, B⟩
  ·
    by_cases hs : 0 ≤ start ∧ start < M.length
    · have e1 : decide (start < 0) = false := decide_eq_false (by omega)
      have e2 : decide ((M.length : Int) ≤ start) = false := decide_eq_false (by omega)
      have L := LL (fun _ => hs) (fun _ => hs)
      clear LL
      go_upto_if 263 with fail
      go_step
      go_step
      go_step
      go_step
      exact L _ _ _ _ _ _ _ _ _ _ _ _ _ _ _ _ _ _ _ _ _ _ _ _ _ _ _ _ _ _ _ _ _ _ _ _ _ _ _ _ _ _ _ _ _ _ _ _ _ _ _ _ _ _ _ _ _ _ _ _ _ _ _ _ _ _ _ _ _ _ _ _ _ _ _ _ _ _ _ _ _ _ _ _ _ _ _ _ _ _ _ _ _ _ _ _ _ _ _ _ _ _ _ _ _ _ _ _ _ _ _ _ _ _ _ _ _ _ _ _ _ _ _ _ _ _ _ _ _ _ _ _ _ _ _ _ _ _ _ _ _ _ _ _ _ _ _ _ _ _ _ _ _ _ _ _ _ _ _ _ _ _ _ _ _ _ _ _ _ _ _ _ _ _ _ _ _ _ _ _ _ _ _ _ _ _ _ _ _ _ _ _ _ _ _ _ _ _ _ _ _ _ _ _ _ _ _ _ _ _ _ _ _ _ _ _
    · clear LL
      by_cases hs0 : start < 0
      · have e1 : decide (start < 0) = true := decide_eq_true hs0
        go_wp2_with fail
        go_ret
        exact ⟨rfl, B⟩
      · have e1 : decide (start < 0) = false := decide_eq_false hs0
        have e2 : decide ((M.length : Int) ≤ start) = true := decide_eq_true (by omega)
        go_wp2_with fail
        go_ret
        exact ⟨rfl, B⟩
set_option maxRecDepth 1000000 in
set_option maxHeartbeats 4000000 in
theorem law4_T45 (a0 fa ca ja pa ea : Option Addr) (c0 fc cc jc pc ec : Nat) (M F C J P E : List Int) (gen start en en2 : Int) (y1 y2 : Nat) (c1 f1 c2 f2 : Bool) (w W : World) (B : Below w.heap.size w W)
    (sM : RowO W .i64 a0 M) (nM : a0 = none → M.length = 0) (rF : Row W .u64 fa F) (rC : Row W .u64 ca C) (rJ : Row W .i32 ja J) (rP : Row W .i32 pa P) (rE : Row W .i64 ea E)
    (qF : ∀ q, fa = some ⟨q, 0, none⟩ → q < W.heap.size) (qC : ∀ q, ca = some ⟨q, 0, none⟩ → q < W.heap.size) (qJ : ∀ q, ja = some ⟨q, 0, none⟩ → q < W.heap.size)
    (qP : ∀ q, pa = some ⟨q, 0, none⟩ → q < W.heap.size) (qE : ∀ q, ea = some ⟨q, 0, none⟩ → q < W.heap.size)
    (HB : Hid ((∀ j : Nat, 0 ≤ F[j]?.getD 0 ∧ F[j]?.getD 0 ≤ 18446744073709551615) ∧ (∀ j : Nat, 0 ≤ C[j]?.getD 0 ∧ C[j]?.getD 0 ≤ 18446744073709551615) ∧ (∀ j : Nat, -2147483648 ≤ P[j]?.getD 0 ∧ P[j]?.getD 0 ≤ 2147483647) ∧ E.length = P.length))
    (lM : M.length ≤ 16384) (lF : F.length ≤ 4096) (lC : C.length ≤ 4096) (lJ : J.length ≤ 16384) (lP : P.length ≤ 16384)
    (hy1 : y1 < 16384) (hy2 : y2 < 16384) (HJ1 : Hid (y1 < J.length ∧ J[y1]?.getD 0 < 0)) (HJ2 : Hid (y2 < J.length ∧ J[y2]?.getD 0 < 0)) (hF1 : y1 / 64 < F.length) (hF2 : y2 / 64 < F.length) (HC1 : Hid (0 < y1 → (y1 - 1) / 64 < C.length)) (HC2 : Hid (0 < y2 → (y2 - 1) / 64 < C.length)) (EB : Hid (c1 = chainB C y1 ∧ f1 = bitAt F y1 ∧ c2 = chainB C y2 ∧ f2 = bitAt F y2)) (HM1 : Hid (c1 = true → (y1 : Int) - 1 < M.length))
    (u24 u25 u26 u27 u28 u29 u54 u55 u56 u57 u58 u59 u60 u61 u62 u63 u64 u65 u66 u67 u68 u69 u70 u71 u72 u73 u74 u75 u76 u77 u78 u79 u80 u81 u82 u83 u84 u85 u86 u87 u88 u89 u90 u91 u92 u93 u94 u95 u96 u97 u98 u99 u100 u101 u102 u103 u104 u105 u106 u107 u108 u109 u110 u111 u112 u113 u114 u115 u116 u117 u118 u119 u120 u121 u122 u123 u124 u125 u126 u127 u128 u129 u130 u131 u132 u133 u134 u135 u136 u137 u138 u139 u140 u141 u142 u143 u144 u145 u146 u147 u148 u149 u150 u151 u152 u153 u154 u155 u156 u157 u158 u159 u160 u161 u162 u163 u164 u165 u166 u167 u168 u169 u170 u171 u172 u173 u174 u175 u176 u177 u178 u179 u180 u181 u182 u183 u184 u185 u186 u187 u188 u189 u190 u191 u192 u193 u194 u195 u196 u197 u198 u199 u200 u201 u202 u203 u204 u205 u206 u207 u208 u209 u210 u211 u212 u213 u214 u215 u216 u217 u218 u219 u220 u221 u222 u223 u224 u225 u226 u227 u228 u229 u230 u231 u232 u233 u234 u235 u236 u237 u238 u239 u240 u241 : Value) :
    Code.wp Tryd.prog (seqTail 21 (Tryd.f4.body.getD .skip)) (bodyPost Tryd.prog Tryd.f4 (fun e w' => e = .returned (.bool true) ∧ Below w.heap.size w w'))
      ⟨(.slice a0 M.length c0 :: .int .i64 gen :: .int .i64 start :: .slice fa F.length fc :: .slice ca C.length cc :: .slice ja J.length jc :: .slice pa P.length pc :: .slice ea P.length ec :: .int .i32 y1 :: .int .i64 en :: .int .i32 y2 :: .int .i64 en2 :: undef :: undef :: undef :: undef :: undef :: undef :: undef :: undef :: undef :: undef :: undef :: undef :: u24 :: u25 :: u26 :: u27 :: u28 :: u29 :: .int .i64 y1 :: .int .i64 y2 :: .bool c1 :: .bool f1 :: .bool c2 :: .bool f2 :: undef :: undef :: undef :: undef :: undef :: undef :: undef :: undef :: undef :: undef :: undef :: undef :: undef :: undef :: undef :: undef :: undef :: undef :: u54 :: u55 :: u56 :: u57 :: u58 :: u59 :: u60 :: u61 :: u62 :: u63 :: u64 :: u65 :: u66 :: u67 :: u68 :: u69 :: u70 :: u71 :: u72 :: u73 :: u74 :: u75 :: u76 :: u77 :: u78 :: u79 :: u80 :: u81 :: u82 :: u83 :: u84 :: u85 :: u86 :: u87 :: u88 :: u89 :: u90 :: u91 :: u92 :: u93 :: u94 :: u95 :: u96 :: u97 :: u98 :: u99 :: u100 :: u101 :: u102 :: u103 :: u104 :: u105 :: u106 :: u107 :: u108 :: u109 :: u110 :: u111 :: u112 :: u113 :: u114 :: u115 :: u116 :: u117 :: u118 :: u119 :: u120 :: u121 :: u122 :: u123 :: u124 :: u125 :: u126 :: u127 :: u128 :: u129 :: u130 :: u131 :: u132 :: u133 :: u134 :: u135 :: u136 :: u137 :: u138 :: u139 :: u140 :: u141 :: u142 :: u143 :: u144 :: u145 :: u146 :: u147 :: u148 :: u149 :: u150 :: u151 :: u152 :: u153 :: u154 :: u155 :: u156 :: u157 :: u158 :: u159 :: u160 :: u161 :: u162 :: u163 :: u164 :: u165 :: u166 :: u167 :: u168 :: u169 :: u170 :: u171 :: u172 :: u173 :: u174 :: u175 :: u176 :: u177 :: u178 :: u179 :: u180 :: u181 :: u182 :: u183 :: u184 :: u185 :: u186 :: u187 :: u188 :: u189 :: u190 :: u191 :: u192 :: u193 :: u194 :: u195 :: u196 :: u197 :: u198 :: u199 :: u200 :: u201 :: u202 :: u203 :: u204 :: u205 :: u206 :: u207 :: u208 :: u209 :: u210 :: u211 :: u212 :: u213 :: u214 :: u215 :: u216 :: u217 :: u218 :: u219 :: u220 :: u221 :: u222 :: u223 :: u224 :: u225 :: u226 :: u227 :: u228 :: u229 :: u230 :: u231 :: u232 :: u233 :: u234 :: u235 :: u236 :: u237 :: u238 :: u239 :: u240 :: u241 :: undef :: undef :: undef :: undef :: undef :: undef :: undef :: undef :: undef :: undef :: undef :: undef :: undef :: undef :: undef :: undef :: undef :: undef :: undef :: undef :: undef :: undef :: undef :: undef :: undef :: undef :: undef :: undef :: undef :: undef :: undef :: undef :: undef :: undef :: undef :: undef :: undef :: undef :: undef :: undef :: undef :: undef :: undef :: undef :: undef :: undef :: undef :: undef :: undef :: undef :: undef :: undef :: undef :: undef :: undef :: undef :: undef :: undef :: undef :: undef :: undef :: undef :: undef :: undef :: undef :: undef :: undef :: undef :: undef :: undef :: undef :: undef :: undef :: undef :: undef :: undef :: undef :: undef :: undef :: undef :: undef :: undef :: undef :: undef :: undef :: undef :: undef :: undef :: undef :: undef :: undef :: undef :: undef :: undef :: undef :: undef :: undef :: undef :: undef :: undef :: undef :: undef :: undef :: undef :: undef :: undef :: undef :: undef :: undef :: undef :: undef :: undef :: undef :: undef :: undef :: undef :: undef :: undef :: undef :: undef :: undef :: undef :: undef :: undef :: undef :: undef :: undef :: undef :: undef :: undef :: undef :: undef :: undef :: undef :: undef :: undef :: undef :: undef :: undef :: undef :: undef :: undef :: undef :: undef :: undef :: undef :: undef :: undef :: undef :: undef :: undef :: undef :: undef :: undef :: undef :: undef :: undef :: undef :: undef :: undef :: undef :: undef :: undef :: undef :: undef :: undef :: undef :: undef :: undef :: undef :: undef :: undef :: undef :: undef :: undef :: undef :: undef :: undef :: undef :: undef :: undef :: undef :: undef :: undef :: undef :: undef :: undef :: undef :: undef :: undef :: undef :: undef :: undef :: undef :: undef :: undef :: undef :: undef :: undef :: undef :: undef :: undef :: undef :: undef :: undef :: undef :: undef :: undef :: undef :: undef :: undef :: undef :: undef :: undef :: undef :: undef :: undef :: undef :: undef :: undef :: undef :: undef :: undef :: undef :: undef :: undef :: undef :: undef :: undef :: undef :: undef :: undef :: undef :: undef :: undef :: undef :: undef :: undef :: undef :: undef :: undef :: undef :: undef :: undef :: undef :: undef :: undef :: undef :: undef :: undef :: undef :: List.nil).toArray, []⟩ W := by
  conv => arg 2; whnf
  have LL : Hid (c2 = true → (y2 : Int) - 1 < M.length) → _ := fun h => law4_T47 a0 fa ca ja pa ea c0 fc cc jc pc ec M F C J P E gen start en en2 y1 y2 c1 f1 c2 f2 w W B sM nM rF rC rJ rP rE qF qC qJ qP qE HB lM lF lC lJ lP hy1 hy2 HJ1 HJ2 hF1 hF2 HC1 HC2 EB HM1 h
  have hpos : c2 = true → 0 < y2 := fun h => by have := chain_pos4 (EB.out.2.2.1.symm.trans h); omega
  cases c2
  · have L := LL (fun h => by cases h)
    clear LL hpos
    go_upto_if 249 with fail
    go_step
    go_step
    go_step
    go_step
    exact L _ _ _ _ _ _ _ _ _ _ _ _ _ _ _ _ _ _ _ _ _ _ _ _ _ _ _ _ _ _ _ _ _ _ _ _ _ _ _ _ _ _ _ _ _ _ _ _ _ _ _ _ _ _ _ _ _ _ _ _ _ _ _ _ _ _ _ _ _ _ _ _ _ _ _ _ _ _ _ _ _ _ _ _ _ _ _ _ _ _ _ _ _ _ _ _ _ _ _ _ _ _ _ _ _ _ _ _ _ _ _ _ _ _ _ _ _ _ _ _ _ _ _ _ _ _ _ _ _ _ _ _ _ _ _ _ _ _ _ _ _ _ _ _ _ _ _ _ _ _ _ _ _ _ _ _ _ _ _ _ _ _ _ _ _ _ _ _ _ _ _ _ _ _ _ _ _ _ _ _ _ _ _ _ _ _ _ _ _ _ _ _ _ _ _ _ _ _ _ _ _ _
  · have hp := hpos rfl
    have hpi : (0 : Int) < (y2 : Int) := by omega
    clear hpos
    by_cases hm : (M.length : Int) ≤ (y2 : Int) - 1
    · have e3 : decide ((M.length : Int) ≤ (y2 : Int) - 1) = true := decide_eq_true hm
      clear LL
      go_wp2_with fail
      go_ret
      exact ⟨rfl, B⟩
    · have e3 : decide ((M.length : Int) ≤ (y2 : Int) - 1) = false := decide_eq_false hm
      have L := LL (fun _ => by omega)
      clear LL
      go_upto_if 249 with fail
      go_step
      go_step
      go_step
      go_step
      exact L _ _ _ _ _ _ _ _ _ _ _ _ _ _ _ _ _ _ _ _ _ _ _ _ _ _ _ _ _ _ _ _ _ _ _ _ _ _ _ _ _ _ _ _ _ _ _ _ _ _ _ _ _ _ _ _ _ _ _ _ _ _ _ _ _ _ _ _ _ _ _ _ _ _ _ _ _ _ _ _ _ _ _ _ _ _ _ _ _ _ _ _ _ _ _ _ _ _ _ _ _ _ _ _ _ _ _ _ _ _ _ _ _ _ _ _ _ _ _ _ _ _ _ _ _ _ _ _ _ _ _ _ _ _ _ _ _ _ _ _ _ _ _ _ _ _ _ _ _ _ _ _ _ _ _ _ _ _ _ _ _ _ _ _ _ _ _ _ _ _ _ _ _ _ _ _ _ _ _ _ _ _ _ _ _ _ _ _ _ _ _ _ _ _ _ _ _ _ _ _ _ _
set_option maxRecDepth 1000000 in
set_option maxHeartbeats 4000000 in
theorem law4_T43 (a0 fa ca ja pa ea : Option Addr) (c0 fc cc jc pc ec : Nat) (M F C J P E : List Int) (gen start en en2 : Int) (y1 y2 : Nat) (c1 f1 c2 f2 : Bool) (w W : World) (B : Below w.heap.size w W)
    (sM : RowO W .i64 a0 M) (nM : a0 = none → M.length = 0) (rF : Row W .u64 fa F) (rC : Row W .u64 ca C) (rJ : Row W .i32 ja J) (rP : Row W .i32 pa P) (rE : Row W .i64 ea E)
    (qF : ∀ q, fa = some ⟨q, 0, none⟩ → q < W.heap.size) (qC : ∀ q, ca = some ⟨q, 0, none⟩ → q < W.heap.size) (qJ : ∀ q, ja = some ⟨q, 0, none⟩ → q < W.heap.size)
    (qP : ∀ q, pa = some ⟨q, 0, none⟩ → q < W.heap.size) (qE : ∀ q, ea = some ⟨q, 0, none⟩ → q < W.heap.size)
    (HB : Hid ((∀ j : Nat, 0 ≤ F[j]?.getD 0 ∧ F[j]?.getD 0 ≤ 18446744073709551615) ∧ (∀ j : Nat, 0 ≤ C[j]?.getD 0 ∧ C[j]?.getD 0 ≤ 18446744073709551615) ∧ (∀ j : Nat, -2147483648 ≤ P[j]?.getD 0 ∧ P[j]?.getD 0 ≤ 2147483647) ∧ E.length = P.length))
    (lM : M.length ≤ 16384) (lF : F.length ≤ 4096) (lC : C.length ≤ 4096) (lJ : J.length ≤ 16384) (lP : P.length ≤ 16384)
    (hy1 : y1 < 16384) (hy2 : y2 < 16384) (HJ1 : Hid (y1 < J.length ∧ J[y1]?.getD 0 < 0)) (HJ2 : Hid (y2 < J.length ∧ J[y2]?.getD 0 < 0)) (hF1 : y1 / 64 < F.length) (hF2 : y2 / 64 < F.length) (HC1 : Hid (0 < y1 → (y1 - 1) / 64 < C.length)) (HC2 : Hid (0 < y2 → (y2 - 1) / 64 < C.length)) (EB : Hid (c1 = chainB C y1 ∧ f1 = bitAt F y1 ∧ c2 = chainB C y2 ∧ f2 = bitAt F y2))
    (u24 u25 u26 u27 u28 u29 u54 u55 u56 u57 u58 u59 u60 u61 u62 u63 u64 u65 u66 u67 u68 u69 u70 u71 u72 u73 u74 u75 u76 u77 u78 u79 u80 u81 u82 u83 u84 u85 u86 u87 u88 u89 u90 u91 u92 u93 u94 u95 u96 u97 u98 u99 u100 u101 u102 u103 u104 u105 u106 u107 u108 u109 u110 u111 u112 u113 u114 u115 u116 u117 u118 u119 u120 u121 u122 u123 u124 u125 u126 u127 u128 u129 u130 u131 u132 u133 u134 u135 u136 u137 u138 u139 u140 u141 u142 u143 u144 u145 u146 u147 u148 u149 u150 u151 u152 u153 u154 u155 u156 u157 u158 u159 u160 u161 u162 u163 u164 u165 u166 u167 u168 u169 u170 u171 u172 u173 u174 u175 u176 u177 u178 u179 u180 u181 u182 u183 u184 u185 u186 u187 u188 u189 u190 u191 u192 u193 u194 u195 u196 u197 u198 u199 u200 u201 u202 u203 u204 u205 u206 u207 u208 u209 u210 u211 u212 u213 u214 u215 u216 u217 u218 u219 u220 u221 u222 u223 u224 u225 u226 u227 u228 u229 u230 u231 u232 u233 : Value) :
    Code.wp Tryd.prog (seqTail 20 (Tryd.f4.body.getD .skip)) (bodyPost Tryd.prog Tryd.f4 (fun e w' => e = .returned (.bool true) ∧ Below w.heap.size w w'))
      ⟨(.slice a0 M.length c0 :: .int .i64 gen :: .int .i64 start :: .slice fa F.length fc :: .slice ca C.length cc :: .slice ja J.length jc :: .slice pa P.length pc :: .slice ea P.length ec :: .int .i32 y1 :: .int .i64 en :: .int .i32 y2 :: .int .i64 en2 :: undef :: undef :: undef :: undef :: undef :: undef :: undef :: undef :: undef :: undef :: undef :: undef :: u24 :: u25 :: u26 :: u27 :: u28 :: u29 :: .int .i64 y1 :: .int .i64 y2 :: .bool c1 :: .bool f1 :: .bool c2 :: .bool f2 :: undef :: undef :: undef :: undef :: undef :: undef :: undef :: undef :: undef :: undef :: undef :: undef :: undef :: undef :: undef :: undef :: undef :: undef :: u54 :: u55 :: u56 :: u57 :: u58 :: u59 :: u60 :: u61 :: u62 :: u63 :: u64 :: u65 :: u66 :: u67 :: u68 :: u69 :: u70 :: u71 :: u72 :: u73 :: u74 :: u75 :: u76 :: u77 :: u78 :: u79 :: u80 :: u81 :: u82 :: u83 :: u84 :: u85 :: u86 :: u87 :: u88 :: u89 :: u90 :: u91 :: u92 :: u93 :: u94 :: u95 :: u96 :: u97 :: u98 :: u99 :: u100 :: u101 :: u102 :: u103 :: u104 :: u105 :: u106 :: u107 :: u108 :: u109 :: u110 :: u111 :: u112 :: u113 :: u114 :: u115 :: u116 :: u117 :: u118 :: u119 :: u120 :: u121 :: u122 :: u123 :: u124 :: u125 :: u126 :: u127 :: u128 :: u129 :: u130 :: u131 :: u132 :: u133 :: u134 :: u135 :: u136 :: u137 :: u138 :: u139 :: u140 :: u141 :: u142 :: u143 :: u144 :: u145 :: u146 :: u147 :: u148 :: u149 :: u150 :: u151 :: u152 :: u153 :: u154 :: u155 :: u156 :: u157 :: u158 :: u159 :: u160 :: u161 :: u162 :: u163 :: u164 :: u165 :: u166 :: u167 :: u168 :: u169 :: u170 :: u171 :: u172 :: u173 :: u174 :: u175 :: u176 :: u177 :: u178 :: u179 :: u180 :: u181 :: u182 :: u183 :: u184 :: u185 :: u186 :: u187 :: u188 :: u189 :: u190 :: u191 :: u192 :: u193 :: u194 :: u195 :: u196 :: u197 :: u198 :: u199 :: u200 :: u201 :: u202 :: u203 :: u204 :: u205 :: u206 :: u207 :: u208 :: u209 :: u210 :: u211 :: u212 :: u213 :: u214 :: u215 :: u216 :: u217 :: u218 :: u219 :: u220 :: u221 :: u222 :: u223 :: u224 :: u225 :: u226 :: u227 :: u228 :: u229 :: u230 :: u231 :: u232 :: u233 :: undef :: undef :: undef :: undef :: undef :: undef :: undef :: undef :: undef :: undef :: undef :: undef :: undef :: undef :: undef :: undef :: undef :: undef :: undef :: undef :: undef :: undef :: undef :: undef :: undef :: undef :: undef :: undef :: undef :: undef :: undef :: undef :: undef :: undef :: undef :: undef :: undef :: undef :: undef :: undef :: undef :: undef :: undef :: undef :: undef :: undef :: undef :: undef :: undef :: undef :: undef :: undef :: undef :: undef :: undef :: undef :: undef :: undef :: undef :: undef :: undef :: undef :: undef :: undef :: undef :: undef :: undef :: undef :: undef :: undef :: undef :: undef :: undef :: undef :: undef :: undef :: undef :: undef :: undef :: undef :: undef :: undef :: undef :: undef :: undef :: undef :: undef :: undef :: undef :: undef :: undef :: undef :: undef :: undef :: undef :: undef :: undef :: undef :: undef :: undef :: undef :: undef :: undef :: undef :: undef :: undef :: undef :: undef :: undef :: undef :: undef :: undef :: undef :: undef :: undef :: undef :: undef :: undef :: undef :: undef :: undef :: undef :: undef :: undef :: undef :: undef :: undef :: undef :: undef :: undef :: undef :: undef :: undef :: undef :: undef :: undef :: undef :: undef :: undef :: undef :: undef :: undef :: undef :: undef :: undef :: undef :: undef :: undef :: undef :: undef :: undef :: undef :: undef :: undef :: undef :: undef :: undef :: undef :: undef :: undef :: undef :: undef :: undef :: undef :: undef :: undef :: undef :: undef :: undef :: undef :: undef :: undef :: undef :: undef :: undef :: undef :: undef :: undef :: undef :: undef :: undef :: undef :: undef :: undef :: undef :: undef :: undef :: undef :: undef :: undef :: undef :: undef :: undef :: undef :: undef :: undef :: undef :: undef :: undef :: undef :: undef :: undef :: undef :: undef :: undef :: undef :: undef :: undef :: undef :: undef :: undef :: undef :: undef :: undef :: undef :: undef :: undef :: undef :: undef :: undef :: undef :: undef :: undef :: undef :: undef :: undef :: undef :: undef :: undef :: undef :: undef :: undef :: undef :: undef :: undef :: undef :: undef :: undef :: undef :: undef :: undef :: undef :: undef :: undef :: undef :: undef :: undef :: undef :: undef :: undef :: undef :: undef :: undef :: undef :: undef :: undef :: undef :: undef :: undef :: List.nil).toArray, []⟩ W := by
  conv => arg 2; whnf
  have LL : Hid (c1 = true → (y1 : Int) - 1 < M.length) → _ := fun h => law4_T45 a0 fa ca ja pa ea c0 fc cc jc pc ec M F C J P E gen start en en2 y1 y2 c1 f1 c2 f2 w W B sM nM rF rC rJ rP rE qF qC qJ qP qE HB lM lF lC lJ lP hy1 hy2 HJ1 HJ2 hF1 hF2 HC1 HC2 EB h
  have hpos : c1 = true → 0 < y1 := fun h => by have := chain_pos4 (EB.out.1.symm.trans h); omega
  cases c1
  · have L := LL (fun h => by cases h)
    clear LL hpos
    go_upto_if 241 with fail
    go_step
    go_step
    go_step
    go_step
    exact L _ _ _ _ _ _ _ _ _ _ _ _ _ _ _ _ _ _ _ _ _ _ _ _ _ _ _ _ _ _ _ _ _ _ _ _ _ _ _ _ _ _ _ _ _ _ _ _ _ _ _ _ _ _ _ _ _ _ _ _ _ _ _ _ _ _ _ _ _ _ _ _ _ _ _ _ _ _ _ _ _ _ _ _ _ _ _ _ _ _ _ _ _ _ _ _ _ _ _ _ _ _ _ _ _ _ _ _ _ _ _ _ _ _ _ _ _ _ _ _ _ _ _ _ _ _ _ _ _ _ _ _ _ _ _ _ _ _ _ _ _ _ _ _ _ _ _ _ _ _ _ _ _ _ _ _ _ _ _ _ _ _ _ _ _ _ _ _ _ _ _ _ _ _ _ _ _ _ _ _ _ _ _ _ _ _ _ _ _ _ _ _ _ _
  · have hp := hpos rfl
    have hpi : (0 : Int) < (y1 : Int) := by omega
    clear hpos
    by_cases hm : (M.length : Int) ≤ (y1 : Int) - 1
    · have e3 : decide ((M.length : Int) ≤ (y1 : Int) - 1) = true := decide_eq_true hm
      clear LL
      go_wp2_with fail
      go_ret
      exact ⟨rfl, B⟩
    · have e3 : decide ((M.length : Int) ≤ (y1 : Int) - 1) = false := decide_eq_false hm
      have L := LL (fun _ => by omega)
      clear LL
      go_upto_if 241 with fail
      go_step
      go_step
      go_step
      go_step
      exact L _ _ _ _ _ _ _ _ _ _ _ _ _ _ _ _ _ _ _ _ _ _ _ _ _ _ _ _ _ _ _ _ _ _ _ _ _ _ _ _ _ _ _ _ _ _ _ _ _ _ _ _ _ _ _ _ _ _ _ _ _ _ _ _ _ _ _ _ _ _ _ _ _ _ _ _ _ _ _ _ _ _ _ _ _ _ _ _ _ _ _ _ _ _ _ _ _ _ _ _ _ _ _ _ _ _ _ _ _ _ _ _ _ _ _ _ _ _ _ _ _ _ _ _ _ _ _ _ _ _ _ _ _ _ _ _ _ _ _ _ _ _ _ _ _ _ _ _ _ _ _ _ _ _ _ _ _ _ _ _ _ _ _ _ _ _ _ _ _ _ _ _ _ _ _ _ _ _ _ _ _ _ _ _ _ _ _ _ _ _ _ _ _ _
set_option maxRecDepth 1000000 in
set_option maxHeartbeats 4000000 in
theorem law4_R41 (a0 fa ca ja pa ea : Option Addr) (c0 fc cc jc pc ec : Nat) (M F C J P E : List Int) (gen start en en2 : Int) (y1 y2 : Nat) (c1 f1 : Bool) (w W : World) (B : Below w.heap.size w W)
    (sM : RowO W .i64 a0 M) (nM : a0 = none → M.length = 0) (rF : Row W .u64 fa F) (rC : Row W .u64 ca C) (rJ : Row W .i32 ja J) (rP : Row W .i32 pa P) (rE : Row W .i64 ea E)
    (qF : ∀ q, fa = some ⟨q, 0, none⟩ → q < W.heap.size) (qC : ∀ q, ca = some ⟨q, 0, none⟩ → q < W.heap.size) (qJ : ∀ q, ja = some ⟨q, 0, none⟩ → q < W.heap.size)
    (qP : ∀ q, pa = some ⟨q, 0, none⟩ → q < W.heap.size) (qE : ∀ q, ea = some ⟨q, 0, none⟩ → q < W.heap.size)
    (HB : Hid ((∀ j : Nat, 0 ≤ F[j]?.getD 0 ∧ F[j]?.getD 0 ≤ 18446744073709551615) ∧ (∀ j : Nat, 0 ≤ C[j]?.getD 0 ∧ C[j]?.getD 0 ≤ 18446744073709551615) ∧ (∀ j : Nat, -2147483648 ≤ P[j]?.getD 0 ∧ P[j]?.getD 0 ≤ 2147483647) ∧ E.length = P.length))
    (lM : M.length ≤ 16384) (lF : F.length ≤ 4096) (lC : C.length ≤ 4096) (lJ : J.length ≤ 16384) (lP : P.length ≤ 16384)
    (hy1 : y1 < 16384) (hy2 : y2 < 16384) (HJ1 : Hid (y1 < J.length ∧ J[y1]?.getD 0 < 0)) (HJ2 : Hid (y2 < J.length ∧ J[y2]?.getD 0 < 0)) (hF1 : y1 / 64 < F.length) (hF2 : y2 / 64 < F.length) (HC1 : Hid (0 < y1 → (y1 - 1) / 64 < C.length)) (HC2 : Hid (0 < y2 → (y2 - 1) / 64 < C.length)) (EB : Hid (c1 = chainB C y1 ∧ f1 = bitAt F y1))
    (u24 u25 u26 u27 u28 u29 u54 u55 u56 u57 u58 u59 u60 u61 u62 u63 u64 u65 u66 u67 u68 u69 u70 u71 u72 u73 u74 u75 u76 u77 u78 u79 u80 u81 u82 u83 u84 u85 u86 u87 u88 u89 u90 u91 u92 u93 u94 u95 u96 u97 u98 u99 u100 u101 u102 u103 u104 u105 u106 u107 u108 u109 u110 u111 u112 u113 u114 u115 u116 u117 u118 u119 u120 u121 u122 u123 u124 u125 u126 u127 u128 u129 u130 u131 u132 u133 u134 u135 u136 u137 u138 u139 u140 u141 u142 u143 u144 u145 u146 u147 u148 u149 u150 u151 u152 u153 u154 u155 u156 u157 u158 u159 u160 u161 u162 u163 u164 u165 u166 u167 u168 u169 u170 u171 u172 u173 u174 u175 u176 u177 u178 u179 u180 u181 u182 u183 u184 u185 u186 u187 u188 u189 u190 u191 u192 u193 u194 u195 u196 u197 u198 u199 u200 u201 u202 u203 u204 u205 u206 u207 u208 u209 u210 u211 u212 u213 u214 u215 u216 u217 u218 u219 u220 u221 u222 : Value) :
    Code.wp Tryd.prog (seqTail 18 (Tryd.f4.body.getD .skip)) (bodyPost Tryd.prog Tryd.f4 (fun e w' => e = .returned (.bool true) ∧ Below w.heap.size w w'))
      ⟨(.slice a0 M.length c0 :: .int .i64 gen :: .int .i64 start :: .slice fa F.length fc :: .slice ca C.length cc :: .slice ja J.length jc :: .slice pa P.length pc :: .slice ea P.length ec :: .int .i32 y1 :: .int .i64 en :: .int .i32 y2 :: .int .i64 en2 :: undef :: undef :: undef :: undef :: undef :: undef :: undef :: undef :: undef :: undef :: undef :: undef :: u24 :: u25 :: u26 :: u27 :: u28 :: u29 :: .int .i64 y1 :: .int .i64 y2 :: .bool c1 :: .bool f1 :: undef :: undef :: undef :: undef :: undef :: undef :: undef :: undef :: undef :: undef :: undef :: undef :: undef :: undef :: undef :: undef :: undef :: undef :: undef :: undef :: u54 :: u55 :: u56 :: u57 :: u58 :: u59 :: u60 :: u61 :: u62 :: u63 :: u64 :: u65 :: u66 :: u67 :: u68 :: u69 :: u70 :: u71 :: u72 :: u73 :: u74 :: u75 :: u76 :: u77 :: u78 :: u79 :: u80 :: u81 :: u82 :: u83 :: u84 :: u85 :: u86 :: u87 :: u88 :: u89 :: u90 :: u91 :: u92 :: u93 :: u94 :: u95 :: u96 :: u97 :: u98 :: u99 :: u100 :: u101 :: u102 :: u103 :: u104 :: u105 :: u106 :: u107 :: u108 :: u109 :: u110 :: u111 :: u112 :: u113 :: u114 :: u115 :: u116 :: u117 :: u118 :: u119 :: u120 :: u121 :: u122 :: u123 :: u124 :: u125 :: u126 :: u127 :: u128 :: u129 :: u130 :: u131 :: u132 :: u133 :: u134 :: u135 :: u136 :: u137 :: u138 :: u139 :: u140 :: u141 :: u142 :: u143 :: u144 :: u145 :: u146 :: u147 :: u148 :: u149 :: u150 :: u151 :: u152 :: u153 :: u154 :: u155 :: u156 :: u157 :: u158 :: u159 :: u160 :: u161 :: u162 :: u163 :: u164 :: u165 :: u166 :: u167 :: u168 :: u169 :: u170 :: u171 :: u172 :: u173 :: u174 :: u175 :: u176 :: u177 :: u178 :: u179 :: u180 :: u181 :: u182 :: u183 :: u184 :: u185 :: u186 :: u187 :: u188 :: u189 :: u190 :: u191 :: u192 :: u193 :: u194 :: u195 :: u196 :: u197 :: u198 :: u199 :: u200 :: u201 :: u202 :: u203 :: u204 :: u205 :: u206 :: u207 :: u208 :: u209 :: u210 :: u211 :: u212 :: u213 :: u214 :: u215 :: u216 :: u217 :: u218 :: u219 :: u220 :: u221 :: u222 :: undef :: undef :: undef :: undef :: undef :: undef :: undef :: undef :: undef :: undef :: undef :: undef :: undef :: undef :: undef :: undef :: undef :: undef :: undef :: undef :: undef :: undef :: undef :: undef :: undef :: undef :: undef :: undef :: undef :: undef :: undef :: undef :: undef :: undef :: undef :: undef :: undef :: undef :: undef :: undef :: undef :: undef :: undef :: undef :: undef :: undef :: undef :: undef :: undef :: undef :: undef :: undef :: undef :: undef :: undef :: undef :: undef :: undef :: undef :: undef :: undef :: undef :: undef :: undef :: undef :: undef :: undef :: undef :: undef :: undef :: undef :: undef :: undef :: undef :: undef :: undef :: undef :: undef :: undef :: undef :: undef :: undef :: undef :: undef :: undef :: undef :: undef :: undef :: undef :: undef :: undef :: undef :: undef :: undef :: undef :: undef :: undef :: undef :: undef :: undef :: undef :: undef :: undef :: undef :: undef :: undef :: undef :: undef :: undef :: undef :: undef :: undef :: undef :: undef :: undef :: undef :: undef :: undef :: undef :: undef :: undef :: undef :: undef :: undef :: undef :: undef :: undef :: undef :: undef :: undef :: undef :: undef :: undef :: undef :: undef :: undef :: undef :: undef :: undef :: undef :: undef :: undef :: undef :: undef :: undef :: undef :: undef :: undef :: undef :: undef :: undef :: undef :: undef :: undef :: undef :: undef :: undef :: undef :: undef :: undef :: undef :: undef :: undef :: undef :: undef :: undef :: undef :: undef :: undef :: undef :: undef :: undef :: undef :: undef :: undef :: undef :: undef :: undef :: undef :: undef :: undef :: undef :: undef :: undef :: undef :: undef :: undef :: undef :: undef :: undef :: undef :: undef :: undef :: undef :: undef :: undef :: undef :: undef :: undef :: undef :: undef :: undef :: undef :: undef :: undef :: undef :: undef :: undef :: undef :: undef :: undef :: undef :: undef :: undef :: undef :: undef :: undef :: undef :: undef :: undef :: undef :: undef :: undef :: undef :: undef :: undef :: undef :: undef :: undef :: undef :: undef :: undef :: undef :: undef :: undef :: undef :: undef :: undef :: undef :: undef :: undef :: undef :: undef :: undef :: undef :: undef :: undef :: undef :: undef :: undef :: undef :: undef :: undef :: undef :: undef :: undef :: undef :: undef :: undef :: undef :: undef :: undef :: undef :: undef :: undef :: undef :: undef :: undef :: undef :: undef :: List.nil).toArray, []⟩ W := by
  conv => arg 2; whnf
  go_step
  go_step
  go_cut [34] from 223 to 230 (fun s wc => s = .bool (chainB C y2) ∧ wc = W)
  case first =>
    by_cases h0 : 0 < y2
    · obtain ⟨i1, hi1, hi2⟩ : ∃ i1 : Nat, (y2 : Int) - 1 = (i1 : Int) ∧ i1 = y2 - 1 := ⟨y2 - 1, by omega, rfl⟩
      have hC1 : i1 / 64 < C.length := by rw [hi2]; exact HC2.out h0
      have hi16 : i1 < 16384 := by omega
      have hyi : (0 : Int) < (y2 : Int) := by omega
      have d6 : decide ((0 : Int) < (y2 : Int)) = true := decide_eq_true (by omega)
      have d6' : decide (0 < y2) = true := decide_eq_true h0
      have ech : chainB C y2 = bitAt C i1 := by
        unfold chainB
        rw [hi1, Int.toNat_natCast]
        simp [h0]
      have E1 : Hid (chainB C y2 = bitAt C i1) := ech
      clear ech hi2
      go_wp2_with fail
      refine (stepBit_any ca _ cc i1 C rfl hC1 (by omega) W HB.out.2.1 rC).mono ?_
      rintro e w' ⟨rfl, hw'⟩
      rw [hw']
      clear hw' w'
      go_wp2_with fail
      go_meet
      case rel => exact ⟨by rw [E1.out], rfl⟩
    · have d6 : decide ((0 : Int) < (y2 : Int)) = false := decide_eq_false (by omega)
      have d6' : decide (0 < y2) = false := decide_eq_false h0
      have ech : chainB C y2 = false := by unfold chainB; rw [d6]; rfl
      have E1 : Hid (chainB C y2 = false) := ech
      clear ech
      go_wp2_with fail
      go_meet
      case rel => exact ⟨by rw [E1.out], rfl⟩
  case rest =>
  obtain ⟨rfl, hwc⟩ := hcut
  subst hwc
  rename World => W
  go_wp2_with fail
  refine (stepBit_any fa _ fc y2 F rfl hF2 (by omega) W HB.out.1 rF).mono ?_
  rintro e w' ⟨rfl, hw'⟩
  rw [hw']
  clear hw' w'
  dsimp only
  iterate 7 go_step
  exact law4_T43 a0 fa ca ja pa ea c0 fc cc jc pc ec M F C J P E gen start en en2 y1 y2 c1 f1 (chainB C y2) (bitAt F y2) w W B sM nM rF rC rJ rP rE qF qC qJ qP qE HB lM lF lC lJ lP hy1 hy2 HJ1 HJ2 hF1 hF2 HC1 HC2 ⟨EB.out.1, EB.out.2, rfl, rfl⟩ _ _ _ _ _ _ _ _ _ _ _ _ _ _ _ _ _ _ _ _ _ _ _ _ _ _ _ _ _ _ _ _ _ _ _ _ _ _ _ _ _ _ _ _ _ _ _ _ _ _ _ _ _ _ _ _ _ _ _ _ _ _ _ _ _ _ _ _ _ _ _ _ _ _ _ _ _ _ _ _ _ _ _ _ _ _ _ _ _ _ _ _ _ _ _ _ _ _ _ _ _ _ _ _ _ _ _ _ _ _ _ _ _ _ _ _ _ _ _ _ _ _ _ _ _ _ _ _ _ _ _ _ _ _ _ _ _ _ _ _ _ _ _ _ _ _ _ _ _ _ _ _ _ _ _ _ _ _ _ _ _ _ _ _ _ _ _ _ _ _ _ _ _ _ _ _ _ _ _ _ _ _ _ _ _ _
set_option maxRecDepth 1000000 in
set_option maxHeartbeats 4000000 in
theorem law4_R39 (a0 fa ca ja pa ea : Option Addr) (c0 fc cc jc pc ec : Nat) (M F C J P E : List Int) (gen start en en2 : Int) (y1 y2 : Nat) (w W : World) (B : Below w.heap.size w W)
    (sM : RowO W .i64 a0 M) (nM : a0 = none → M.length = 0) (rF : Row W .u64 fa F) (rC : Row W .u64 ca C) (rJ : Row W .i32 ja J) (rP : Row W .i32 pa P) (rE : Row W .i64 ea E)
    (qF : ∀ q, fa = some ⟨q, 0, none⟩ → q < W.heap.size) (qC : ∀ q, ca = some ⟨q, 0, none⟩ → q < W.heap.size) (qJ : ∀ q, ja = some ⟨q, 0, none⟩ → q < W.heap.size)
    (qP : ∀ q, pa = some ⟨q, 0, none⟩ → q < W.heap.size) (qE : ∀ q, ea = some ⟨q, 0, none⟩ → q < W.heap.size)
    (HB : Hid ((∀ j : Nat, 0 ≤ F[j]?.getD 0 ∧ F[j]?.getD 0 ≤ 18446744073709551615) ∧ (∀ j : Nat, 0 ≤ C[j]?.getD 0 ∧ C[j]?.getD 0 ≤ 18446744073709551615) ∧ (∀ j : Nat, -2147483648 ≤ P[j]?.getD 0 ∧ P[j]?.getD 0 ≤ 2147483647) ∧ E.length = P.length))
    (lM : M.length ≤ 16384) (lF : F.length ≤ 4096) (lC : C.length ≤ 4096) (lJ : J.length ≤ 16384) (lP : P.length ≤ 16384)
    (hy1 : y1 < 16384) (hy2 : y2 < 16384) (HJ1 : Hid (y1 < J.length ∧ J[y1]?.getD 0 < 0)) (HJ2 : Hid (y2 < J.length ∧ J[y2]?.getD 0 < 0)) (hF1 : y1 / 64 < F.length) (hF2 : y2 / 64 < F.length) (HC1 : Hid (0 < y1 → (y1 - 1) / 64 < C.length)) (HC2 : Hid (0 < y2 → (y2 - 1) / 64 < C.length))
    (u24 u25 u26 u27 u28 u29 u54 u55 u56 u57 u58 u59 u60 u61 u62 u63 u64 u65 u66 u67 u68 u69 u70 u71 u72 u73 u74 u75 u76 u77 u78 u79 u80 u81 u82 u83 u84 u85 u86 u87 u88 u89 u90 u91 u92 u93 u94 u95 u96 u97 u98 u99 u100 u101 u102 u103 u104 u105 u106 u107 u108 u109 u110 u111 u112 u113 u114 u115 u116 u117 u118 u119 u120 u121 u122 u123 u124 u125 u126 u127 u128 u129 u130 u131 u132 u133 u134 u135 u136 u137 u138 u139 u140 u141 u142 u143 u144 u145 u146 u147 u148 u149 u150 u151 u152 u153 u154 u155 u156 u157 u158 u159 u160 u161 u162 u163 u164 u165 u166 u167 u168 u169 u170 u171 u172 u173 u174 u175 u176 u177 u178 u179 u180 u181 u182 u183 u184 u185 u186 u187 u188 u189 u190 u191 u192 u193 u194 u195 u196 u197 u198 u199 u200 u201 u202 u203 u204 u205 u206 u207 u208 u209 u210 u211 : Value) :
    Code.wp Tryd.prog (seqTail 16 (Tryd.f4.body.getD .skip)) (bodyPost Tryd.prog Tryd.f4 (fun e w' => e = .returned (.bool true) ∧ Below w.heap.size w w'))
      ⟨(.slice a0 M.length c0 :: .int .i64 gen :: .int .i64 start :: .slice fa F.length fc :: .slice ca C.length cc :: .slice ja J.length jc :: .slice pa P.length pc :: .slice ea P.length ec :: .int .i32 y1 :: .int .i64 en :: .int .i32 y2 :: .int .i64 en2 :: undef :: undef :: undef :: undef :: undef :: undef :: undef :: undef :: undef :: undef :: undef :: undef :: u24 :: u25 :: u26 :: u27 :: u28 :: u29 :: .int .i64 y1 :: .int .i64 y2 :: undef :: undef :: undef :: undef :: undef :: undef :: undef :: undef :: undef :: undef :: undef :: undef :: undef :: undef :: undef :: undef :: undef :: undef :: undef :: undef :: undef :: undef :: u54 :: u55 :: u56 :: u57 :: u58 :: u59 :: u60 :: u61 :: u62 :: u63 :: u64 :: u65 :: u66 :: u67 :: u68 :: u69 :: u70 :: u71 :: u72 :: u73 :: u74 :: u75 :: u76 :: u77 :: u78 :: u79 :: u80 :: u81 :: u82 :: u83 :: u84 :: u85 :: u86 :: u87 :: u88 :: u89 :: u90 :: u91 :: u92 :: u93 :: u94 :: u95 :: u96 :: u97 :: u98 :: u99 :: u100 :: u101 :: u102 :: u103 :: u104 :: u105 :: u106 :: u107 :: u108 :: u109 :: u110 :: u111 :: u112 :: u113 :: u114 :: u115 :: u116 :: u117 :: u118 :: u119 :: u120 :: u121 :: u122 :: u123 :: u124 :: u125 :: u126 :: u127 :: u128 :: u129 :: u130 :: u131 :: u132 :: u133 :: u134 :: u135 :: u136 :: u137 :: u138 :: u139 :: u140 :: u141 :: u142 :: u143 :: u144 :: u145 :: u146 :: u147 :: u148 :: u149 :: u150 :: u151 :: u152 :: u153 :: u154 :: u155 :: u156 :: u157 :: u158 :: u159 :: u160 :: u161 :: u162 :: u163 :: u164 :: u165 :: u166 :: u167 :: u168 :: u169 :: u170 :: u171 :: u172 :: u173 :: u174 :: u175 :: u176 :: u177 :: u178 :: u179 :: u180 :: u181 :: u182 :: u183 :: u184 :: u185 :: u186 :: u187 :: u188 :: u189 :: u190 :: u191 :: u192 :: u193 :: u194 :: u195 :: u196 :: u197 :: u198 :: u199 :: u200 :: u201 :: u202 :: u203 :: u204 :: u205 :: u206 :: u207 :: u208 :: u209 :: u210 :: u211 :: undef :: undef :: undef :: undef :: undef :: undef :: undef :: undef :: undef :: undef :: undef :: undef :: undef :: undef :: undef :: undef :: undef :: undef :: undef :: undef :: undef :: undef :: undef :: undef :: undef :: undef :: undef :: undef :: undef :: undef :: undef :: undef :: undef :: undef :: undef :: undef :: undef :: undef :: undef :: undef :: undef :: undef :: undef :: undef :: undef :: undef :: undef :: undef :: undef :: undef :: undef :: undef :: undef :: undef :: undef :: undef :: undef :: undef :: undef :: undef :: undef :: undef :: undef :: undef :: undef :: undef :: undef :: undef :: undef :: undef :: undef :: undef :: undef :: undef :: undef :: undef :: undef :: undef :: undef :: undef :: undef :: undef :: undef :: undef :: undef :: undef :: undef :: undef :: undef :: undef :: undef :: undef :: undef :: undef :: undef :: undef :: undef :: undef :: undef :: undef :: undef :: undef :: undef :: undef :: undef :: undef :: undef :: undef :: undef :: undef :: undef :: undef :: undef :: undef :: undef :: undef :: undef :: undef :: undef :: undef :: undef :: undef :: undef :: undef :: undef :: undef :: undef :: undef :: undef :: undef :: undef :: undef :: undef :: undef :: undef :: undef :: undef :: undef :: undef :: undef :: undef :: undef :: undef :: undef :: undef :: undef :: undef :: undef :: undef :: undef :: undef :: undef :: undef :: undef :: undef :: undef :: undef :: undef :: undef :: undef :: undef :: undef :: undef :: undef :: undef :: undef :: undef :: undef :: undef :: undef :: undef :: undef :: undef :: undef :: undef :: undef :: undef :: undef :: undef :: undef :: undef :: undef :: undef :: undef :: undef :: undef :: undef :: undef :: undef :: undef :: undef :: undef :: undef :: undef :: undef :: undef :: undef :: undef :: undef :: undef :: undef :: undef :: undef :: undef :: undef :: undef :: undef :: undef :: undef :: undef :: undef :: undef :: undef :: undef :: undef :: undef :: undef :: undef :: undef :: undef :: undef :: undef :: undef :: undef :: undef :: undef :: undef :: undef :: undef :: undef :: undef :: undef :: undef :: undef :: undef :: undef :: undef :: undef :: undef :: undef :: undef :: undef :: undef :: undef :: undef :: undef :: undef :: undef :: undef :: undef :: undef :: undef :: undef :: undef :: undef :: undef :: undef :: undef :: undef :: undef :: undef :: undef :: undef :: undef :: undef :: undef :: undef :: undef :: undef :: undef :: undef :: undef :: undef :: undef :: undef :: undef :: undef :: undef :: undef :: undef :: undef :: List.nil).toArray, []⟩ W := by
  conv => arg 2; whnf
  go_step
  go_step
  go_cut [32] from 212 to 219 (fun s wc => s = .bool (chainB C y1) ∧ wc = W)
  case first =>
    by_cases h0 : 0 < y1
    · obtain ⟨i1, hi1, hi2⟩ : ∃ i1 : Nat, (y1 : Int) - 1 = (i1 : Int) ∧ i1 = y1 - 1 := ⟨y1 - 1, by omega, rfl⟩
      have hC1 : i1 / 64 < C.length := by rw [hi2]; exact HC1.out h0
      have hi16 : i1 < 16384 := by omega
      have hyi : (0 : Int) < (y1 : Int) := by omega
      have d6 : decide ((0 : Int) < (y1 : Int)) = true := decide_eq_true (by omega)
      have d6' : decide (0 < y1) = true := decide_eq_true h0
      have ech : chainB C y1 = bitAt C i1 := by
        unfold chainB
        rw [hi1, Int.toNat_natCast]
        simp [h0]
      have E1 : Hid (chainB C y1 = bitAt C i1) := ech
      clear ech hi2
      go_wp2_with fail
      refine (stepBit_any ca _ cc i1 C rfl hC1 (by omega) W HB.out.2.1 rC).mono ?_
      rintro e w' ⟨rfl, hw'⟩
      rw [hw']
      clear hw' w'
      go_wp2_with fail
      go_meet
      case rel => exact ⟨by rw [E1.out], rfl⟩
    · have d6 : decide ((0 : Int) < (y1 : Int)) = false := decide_eq_false (by omega)
      have d6' : decide (0 < y1) = false := decide_eq_false h0
      have ech : chainB C y1 = false := by unfold chainB; rw [d6]; rfl
      have E1 : Hid (chainB C y1 = false) := ech
      clear ech
      go_wp2_with fail
      go_meet
      case rel => exact ⟨by rw [E1.out], rfl⟩
  case rest =>
  obtain ⟨rfl, hwc⟩ := hcut
  subst hwc
  rename World => W
  go_wp2_with fail
  refine (stepBit_any fa _ fc y1 F rfl hF1 (by omega) W HB.out.1 rF).mono ?_
  rintro e w' ⟨rfl, hw'⟩
  rw [hw']
  clear hw' w'
  dsimp only
  iterate 7 go_step
  exact law4_R41 a0 fa ca ja pa ea c0 fc cc jc pc ec M F C J P E gen start en en2 y1 y2 (chainB C y1) (bitAt F y1) w W B sM nM rF rC rJ rP rE qF qC qJ qP qE HB lM lF lC lJ lP hy1 hy2 HJ1 HJ2 hF1 hF2 HC1 HC2 ⟨rfl, rfl⟩ _ _ _ _ _ _ _ _ _ _ _ _ _ _ _ _ _ _ _ _ _ _ _ _ _ _ _ _ _ _ _ _ _ _ _ _ _ _ _ _ _ _ _ _ _ _ _ _ _ _ _ _ _ _ _ _ _ _ _ _ _ _ _ _ _ _ _ _ _ _ _ _ _ _ _ _ _ _ _ _ _ _ _ _ _ _ _ _ _ _ _ _ _ _ _ _ _ _ _ _ _ _ _ _ _ _ _ _ _ _ _ _ _ _ _ _ _ _ _ _ _ _ _ _ _ _ _ _ _ _ _ _ _ _ _ _ _ _ _ _ _ _ _ _ _ _ _ _ _ _ _ _ _ _ _ _ _ _ _ _ _ _ _ _ _ _ _ _ _ _ _ _ _ _ _
set_option maxRecDepth 1000000 in
set_option maxHeartbeats 4000000 in
theorem law4_T37 (a0 fa ca ja pa ea : Option Addr) (c0 fc cc jc pc ec : Nat) (M F C J P E : List Int) (gen start en en2 : Int) (y1 y2 : Nat) (w W : World) (B : Below w.heap.size w W)
    (sM : RowO W .i64 a0 M) (nM : a0 = none → M.length = 0) (rF : Row W .u64 fa F) (rC : Row W .u64 ca C) (rJ : Row W .i32 ja J) (rP : Row W .i32 pa P) (rE : Row W .i64 ea E)
    (qF : ∀ q, fa = some ⟨q, 0, none⟩ → q < W.heap.size) (qC : ∀ q, ca = some ⟨q, 0, none⟩ → q < W.heap.size) (qJ : ∀ q, ja = some ⟨q, 0, none⟩ → q < W.heap.size)
    (qP : ∀ q, pa = some ⟨q, 0, none⟩ → q < W.heap.size) (qE : ∀ q, ea = some ⟨q, 0, none⟩ → q < W.heap.size)
    (HB : Hid ((∀ j : Nat, 0 ≤ F[j]?.getD 0 ∧ F[j]?.getD 0 ≤ 18446744073709551615) ∧ (∀ j : Nat, 0 ≤ C[j]?.getD 0 ∧ C[j]?.getD 0 ≤ 18446744073709551615) ∧ (∀ j : Nat, -2147483648 ≤ P[j]?.getD 0 ∧ P[j]?.getD 0 ≤ 2147483647) ∧ E.length = P.length))
    (lM : M.length ≤ 16384) (lF : F.length ≤ 4096) (lC : C.length ≤ 4096) (lJ : J.length ≤ 16384) (lP : P.length ≤ 16384)
    (hy1 : y1 < 16384) (hy2 : y2 < 16384) (HJ1 : Hid (y1 < J.length ∧ J[y1]?.getD 0 < 0)) (HJ2 : Hid (y2 < J.length ∧ J[y2]?.getD 0 < 0)) (hF1 : y1 / 64 < F.length) (hF2 : y2 / 64 < F.length) (HC1 : Hid (0 < y1 → (y1 - 1) / 64 < C.length))
    (u24 u25 u26 u27 u28 u29 u54 u55 u56 u57 u58 u59 u60 u61 u62 u63 u64 u65 u66 u67 u68 u69 u70 u71 u72 u73 u74 u75 u76 u77 u78 u79 u80 u81 u82 u83 u84 u85 u86 u87 u88 u89 u90 u91 u92 u93 u94 u95 u96 u97 u98 u99 u100 u101 u102 u103 u104 u105 u106 u107 u108 u109 u110 u111 u112 u113 u114 u115 u116 u117 u118 u119 u120 u121 u122 u123 u124 u125 u126 u127 u128 u129 u130 u131 u132 u133 u134 u135 u136 u137 u138 u139 u140 u141 u142 u143 u144 u145 u146 u147 u148 u149 u150 u151 u152 u153 u154 u155 u156 u157 u158 u159 u160 u161 u162 u163 u164 u165 u166 u167 u168 u169 u170 u171 u172 u173 u174 u175 u176 u177 u178 u179 u180 u181 u182 u183 u184 u185 u186 u187 u188 u189 u190 u191 u192 u193 u194 u195 u196 u197 u198 u199 u200 u201 : Value) :
    Code.wp Tryd.prog (seqTail 15 (Tryd.f4.body.getD .skip)) (bodyPost Tryd.prog Tryd.f4 (fun e w' => e = .returned (.bool true) ∧ Below w.heap.size w w'))
      ⟨(.slice a0 M.length c0 :: .int .i64 gen :: .int .i64 start :: .slice fa F.length fc :: .slice ca C.length cc :: .slice ja J.length jc :: .slice pa P.length pc :: .slice ea P.length ec :: .int .i32 y1 :: .int .i64 en :: .int .i32 y2 :: .int .i64 en2 :: undef :: undef :: undef :: undef :: undef :: undef :: undef :: undef :: undef :: undef :: undef :: undef :: u24 :: u25 :: u26 :: u27 :: u28 :: u29 :: .int .i64 y1 :: .int .i64 y2 :: undef :: undef :: undef :: undef :: undef :: undef :: undef :: undef :: undef :: undef :: undef :: undef :: undef :: undef :: undef :: undef :: undef :: undef :: undef :: undef :: undef :: undef :: u54 :: u55 :: u56 :: u57 :: u58 :: u59 :: u60 :: u61 :: u62 :: u63 :: u64 :: u65 :: u66 :: u67 :: u68 :: u69 :: u70 :: u71 :: u72 :: u73 :: u74 :: u75 :: u76 :: u77 :: u78 :: u79 :: u80 :: u81 :: u82 :: u83 :: u84 :: u85 :: u86 :: u87 :: u88 :: u89 :: u90 :: u91 :: u92 :: u93 :: u94 :: u95 :: u96 :: u97 :: u98 :: u99 :: u100 :: u101 :: u102 :: u103 :: u104 :: u105 :: u106 :: u107 :: u108 :: u109 :: u110 :: u111 :: u112 :: u113 :: u114 :: u115 :: u116 :: u117 :: u118 :: u119 :: u120 :: u121 :: u122 :: u123 :: u124 :: u125 :: u126 :: u127 :: u128 :: u129 :: u130 :: u131 :: u132 :: u133 :: u134 :: u135 :: u136 :: u137 :: u138 :: u139 :: u140 :: u141 :: u142 :: u143 :: u144 :: u145 :: u146 :: u147 :: u148 :: u149 :: u150 :: u151 :: u152 :: u153 :: u154 :: u155 :: u156 :: u157 :: u158 :: u159 :: u160 :: u161 :: u162 :: u163 :: u164 :: u165 :: u166 :: u167 :: u168 :: u169 :: u170 :: u171 :: u172 :: u173 :: u174 :: u175 :: u176 :: u177 :: u178 :: u179 :: u180 :: u181 :: u182 :: u183 :: u184 :: u185 :: u186 :: u187 :: u188 :: u189 :: u190 :: u191 :: u192 :: u193 :: u194 :: u195 :: u196 :: u197 :: u198 :: u199 :: u200 :: u201 :: undef :: undef :: undef :: undef :: undef :: undef :: undef :: undef :: undef :: undef :: undef :: undef :: undef :: undef :: undef :: undef :: undef :: undef :: undef :: undef :: undef :: undef :: undef :: undef :: undef :: undef :: undef :: undef :: undef :: undef :: undef :: undef :: undef :: undef :: undef :: undef :: undef :: undef :: undef :: undef :: undef :: undef :: undef :: undef :: undef :: undef :: undef :: undef :: undef :: undef :: undef :: undef :: undef :: undef :: undef :: undef :: undef :: undef :: undef :: undef :: undef :: undef :: undef :: undef :: undef :: undef :: undef :: undef :: undef :: undef :: undef :: undef :: undef :: undef :: undef :: undef :: undef :: undef :: undef :: undef :: undef :: undef :: undef :: undef :: undef :: undef :: undef :: undef :: undef :: undef :: undef :: undef :: undef :: undef :: undef :: undef :: undef :: undef :: undef :: undef :: undef :: undef :: undef :: undef :: undef :: undef :: undef :: undef :: undef :: undef :: undef :: undef :: undef :: undef :: undef :: undef :: undef :: undef :: undef :: undef :: undef :: undef :: undef :: undef :: undef :: undef :: undef :: undef :: undef :: undef :: undef :: undef :: undef :: undef :: undef :: undef :: undef :: undef :: undef :: undef :: undef :: undef :: undef :: undef :: undef :: undef :: undef :: undef :: undef :: undef :: undef :: undef :: undef :: undef :: undef :: undef :: undef :: undef :: undef :: undef :: undef :: undef :: undef :: undef :: undef :: undef :: undef :: undef :: undef :: undef :: undef :: undef :: undef :: undef :: undef :: undef :: undef :: undef :: undef :: undef :: undef :: undef :: undef :: undef :: undef :: undef :: undef :: undef :: undef :: undef :: undef :: undef :: undef :: undef :: undef :: undef :: undef :: undef :: undef :: undef :: undef :: undef :: undef :: undef :: undef :: undef :: undef :: undef :: undef :: undef :: undef :: undef :: undef :: undef :: undef :: undef :: undef :: undef :: undef :: undef :: undef :: undef :: undef :: undef :: undef :: undef :: undef :: undef :: undef :: undef :: undef :: undef :: undef :: undef :: undef :: undef :: undef :: undef :: undef :: undef :: undef :: undef :: undef :: undef :: undef :: undef :: undef :: undef :: undef :: undef :: undef :: undef :: undef :: undef :: undef :: undef :: undef :: undef :: undef :: undef :: undef :: undef :: undef :: undef :: undef :: undef :: undef :: undef :: undef :: undef :: undef :: undef :: undef :: undef :: undef :: undef :: undef :: undef :: undef :: undef :: undef :: undef :: undef :: undef :: undef :: undef :: undef :: undef :: undef :: undef :: undef :: List.nil).toArray, []⟩ W := by
  conv => arg 2; whnf
  have LL : Hid (0 < y2 → (y2 - 1) / 64 < C.length) → _ := fun h => law4_R39 a0 fa ca ja pa ea c0 fc cc jc pc ec M F C J P E gen start en en2 y1 y2 w W B sM nM rF rC rJ rP rE qF qC qJ qP qE HB lM lF lC lJ lP hy1 hy2 HJ1 HJ2 hF1 hF2 HC1 h
  by_cases h0 : 0 < y2
  · obtain ⟨i1, hi1, hi2⟩ : ∃ i1 : Nat, (y2 : Int) - 1 = (i1 : Int) ∧ i1 = y2 - 1 := ⟨y2 - 1, by omega, rfl⟩
    have hi16 : i1 < 16384 := by omega
    have hyi : (0 : Int) < (y2 : Int) := by omega
    have d6 : decide ((0 : Int) < (y2 : Int)) = true := decide_eq_true (by omega)
    have d6' : decide (0 < y2) = true := decide_eq_true h0
    by_cases hE : C.length ≤ i1 / 64
    · have d7 : decide ((C.length : Int) ≤ (i1 : Int) / 64) = true := decide_eq_true (by omega)
      clear LL hi2
      go_wp2_with fail
      go_ret
      exact ⟨rfl, B⟩
    · have d7 : decide ((C.length : Int) ≤ (i1 : Int) / 64) = false := decide_eq_false (by omega)
      have L := LL (fun _ => by rw [← hi2]; omega)
      clear LL hi2
      go_upto_if 211 with fail
      go_step
      go_step
      go_step
      go_step
      exact L _ _ _ _ _ _ _ _ _ _ _ _ _ _ _ _ _ _ _ _ _ _ _ _ _ _ _ _ _ _ _ _ _ _ _ _ _ _ _ _ _ _ _ _ _ _ _ _ _ _ _ _ _ _ _ _ _ _ _ _ _ _ _ _ _ _ _ _ _ _ _ _ _ _ _ _ _ _ _ _ _ _ _ _ _ _ _ _ _ _ _ _ _ _ _ _ _ _ _ _ _ _ _ _ _ _ _ _ _ _ _ _ _ _ _ _ _ _ _ _ _ _ _ _ _ _ _ _ _ _ _ _ _ _ _ _ _ _ _ _ _ _ _ _ _ _ _ _ _ _ _ _ _ _ _ _ _ _ _ _ _ _ _ _
  · have d6 : decide ((0 : Int) < (y2 : Int)) = false := decide_eq_false (by omega)
    have d6' : decide (0 < y2) = false := decide_eq_false h0
    have L := LL (fun h => absurd h h0)
    clear LL
    go_upto_if 211 with fail
    go_step
    go_step
    go_step
    go_step
    exact L _ _ _ _ _ _ _ _ _ _ _ _ _ _ _ _ _ _ _ _ _ _ _ _ _ _ _ _ _ _ _ _ _ _ _ _ _ _ _ _ _ _ _ _ _ _ _ _ _ _ _ _ _ _ _ _ _ _ _ _ _ _ _ _ _ _ _ _ _ _ _ _ _ _ _ _ _ _ _ _ _ _ _ _ _ _ _ _ _ _ _ _ _ _ _ _ _ _ _ _ _ _ _ _ _ _ _ _ _ _ _ _ _ _ _ _ _ _ _ _ _ _ _ _ _ _ _ _ _ _ _ _ _ _ _ _ _ _ _ _ _ _ _ _ _ _ _ _ _ _ _ _ _ _ _ _ _ _ _ _ _ _ _ _
set_option maxRecDepth 1000000 in
set_option maxHeartbeats 4000000 in
theorem law4_T35 (a0 fa ca ja pa ea : Option Addr) (c0 fc cc jc pc ec : Nat) (M F C J P E : List Int) (gen start en en2 : Int) (y1 y2 : Nat) (w W : World) (B : Below w.heap.size w W)
    (sM : RowO W .i64 a0 M) (nM : a0 = none → M.length = 0) (rF : Row W .u64 fa F) (rC : Row W .u64 ca C) (rJ : Row W .i32 ja J) (rP : Row W .i32 pa P) (rE : Row W .i64 ea E)
    (qF : ∀ q, fa = some ⟨q, 0, none⟩ → q < W.heap.size) (qC : ∀ q, ca = some ⟨q, 0, none⟩ → q < W.heap.size) (qJ : ∀ q, ja = some ⟨q, 0, none⟩ → q < W.heap.size)
    (qP : ∀ q, pa = some ⟨q, 0, none⟩ → q < W.heap.size) (qE : ∀ q, ea = some ⟨q, 0, none⟩ → q < W.heap.size)
    (HB : Hid ((∀ j : Nat, 0 ≤ F[j]?.getD 0 ∧ F[j]?.getD 0 ≤ 18446744073709551615) ∧ (∀ j : Nat, 0 ≤ C[j]?.getD 0 ∧ C[j]?.getD 0 ≤ 18446744073709551615) ∧ (∀ j : Nat, -2147483648 ≤ P[j]?.getD 0 ∧ P[j]?.getD 0 ≤ 2147483647) ∧ E.length = P.length))
    (lM : M.length ≤ 16384) (lF : F.length ≤ 4096) (lC : C.length ≤ 4096) (lJ : J.length ≤ 16384) (lP : P.length ≤ 16384)
    (hy1 : y1 < 16384) (hy2 : y2 < 16384) (HJ1 : Hid (y1 < J.length ∧ J[y1]?.getD 0 < 0)) (HJ2 : Hid (y2 < J.length ∧ J[y2]?.getD 0 < 0)) (hF1 : y1 / 64 < F.length) (hF2 : y2 / 64 < F.length)
    (u24 u25 u26 u27 u28 u29 u54 u55 u56 u57 u58 u59 u60 u61 u62 u63 u64 u65 u66 u67 u68 u69 u70 u71 u72 u73 u74 u75 u76 u77 u78 u79 u80 u81 u82 u83 u84 u85 u86 u87 u88 u89 u90 u91 u92 u93 u94 u95 u96 u97 u98 u99 u100 u101 u102 u103 u104 u105 u106 u107 u108 u109 u110 u111 u112 u113 u114 u115 u116 u117 u118 u119 u120 u121 u122 u123 u124 u125 u126 u127 u128 u129 u130 u131 u132 u133 u134 u135 u136 u137 u138 u139 u140 u141 u142 u143 u144 u145 u146 u147 u148 u149 u150 u151 u152 u153 u154 u155 u156 u157 u158 u159 u160 u161 u162 u163 u164 u165 u166 u167 u168 u169 u170 u171 u172 u173 u174 u175 u176 u177 u178 u179 u180 u181 u182 u183 u184 u185 u186 u187 u188 u189 u190 u191 : Value) :
    Code.wp Tryd.prog (seqTail 14 (Tryd.f4.body.getD .skip)) (bodyPost Tryd.prog Tryd.f4 (fun e w' => e = .returned (.bool true) ∧ Below w.heap.size w w'))
      ⟨(.slice a0 M.length c0 :: .int .i64 gen :: .int .i64 start :: .slice fa F.length fc :: .slice ca C.length cc :: .slice ja J.length jc :: .slice pa P.length pc :: .slice ea P.length ec :: .int .i32 y1 :: .int .i64 en :: .int .i32 y2 :: .int .i64 en2 :: undef :: undef :: undef :: undef :: undef :: undef :: undef :: undef :: undef :: undef :: undef :: undef :: u24 :: u25 :: u26 :: u27 :: u28 :: u29 :: .int .i64 y1 :: .int .i64 y2 :: undef :: undef :: undef :: undef :: undef :: undef :: undef :: undef :: undef :: undef :: undef :: undef :: undef :: undef :: undef :: undef :: undef :: undef :: undef :: undef :: undef :: undef :: u54 :: u55 :: u56 :: u57 :: u58 :: u59 :: u60 :: u61 :: u62 :: u63 :: u64 :: u65 :: u66 :: u67 :: u68 :: u69 :: u70 :: u71 :: u72 :: u73 :: u74 :: u75 :: u76 :: u77 :: u78 :: u79 :: u80 :: u81 :: u82 :: u83 :: u84 :: u85 :: u86 :: u87 :: u88 :: u89 :: u90 :: u91 :: u92 :: u93 :: u94 :: u95 :: u96 :: u97 :: u98 :: u99 :: u100 :: u101 :: u102 :: u103 :: u104 :: u105 :: u106 :: u107 :: u108 :: u109 :: u110 :: u111 :: u112 :: u113 :: u114 :: u115 :: u116 :: u117 :: u118 :: u119 :: u120 :: u121 :: u122 :: u123 :: u124 :: u125 :: u126 :: u127 :: u128 :: u129 :: u130 :: u131 :: u132 :: u133 :: u134 :: u135 :: u136 :: u137 :: u138 :: u139 :: u140 :: u141 :: u142 :: u143 :: u144 :: u145 :: u146 :: u147 :: u148 :: u149 :: u150 :: u151 :: u152 :: u153 :: u154 :: u155 :: u156 :: u157 :: u158 :: u159 :: u160 :: u161 :: u162 :: u163 :: u164 :: u165 :: u166 :: u167 :: u168 :: u169 :: u170 :: u171 :: u172 :: u173 :: u174 :: u175 :: u176 :: u177 :: u178 :: u179 :: u180 :: u181 :: u182 :: u183 :: u184 :: u185 :: u186 :: u187 :: u188 :: u189 :: u190 :: u191 :: undef :: undef :: undef :: undef :: undef :: undef :: undef :: undef :: undef :: undef :: undef :: undef :: undef :: undef :: undef :: undef :: undef :: undef :: undef :: undef :: undef :: undef :: undef :: undef :: undef :: undef :: undef :: undef :: undef :: undef :: undef :: undef :: undef :: undef :: undef :: undef :: undef :: undef :: undef :: undef :: undef :: undef :: undef :: undef :: undef :: undef :: undef :: undef :: undef :: undef :: undef :: undef :: undef :: undef :: undef :: undef :: undef :: undef :: undef :: undef :: undef :: undef :: undef :: undef :: undef :: undef :: undef :: undef :: undef :: undef :: undef :: undef :: undef :: undef :: undef :: undef :: undef :: undef :: undef :: undef :: undef :: undef :: undef :: undef :: undef :: undef :: undef :: undef :: undef :: undef :: undef :: undef :: undef :: undef :: undef :: undef :: undef :: undef :: undef :: undef :: undef :: undef :: undef :: undef :: undef :: undef :: undef :: undef :: undef :: undef :: undef :: undef :: undef :: undef :: undef :: undef :: undef :: undef :: undef :: undef :: undef :: undef :: undef :: undef :: undef :: undef :: undef :: undef :: undef :: undef :: undef :: undef :: undef :: undef :: undef :: undef :: undef :: undef :: undef :: undef :: undef :: undef :: undef :: undef :: undef :: undef :: undef :: undef :: undef :: undef :: undef :: undef :: undef :: undef :: undef :: undef :: undef :: undef :: undef :: undef :: undef :: undef :: undef :: undef :: undef :: undef :: undef :: undef :: undef :: undef :: undef :: undef :: undef :: undef :: undef :: undef :: undef :: undef :: undef :: undef :: undef :: undef :: undef :: undef :: undef :: undef :: undef :: undef :: undef :: undef :: undef :: undef :: undef :: undef :: undef :: undef :: undef :: undef :: undef :: undef :: undef :: undef :: undef :: undef :: undef :: undef :: undef :: undef :: undef :: undef :: undef :: undef :: undef :: undef :: undef :: undef :: undef :: undef :: undef :: undef :: undef :: undef :: undef :: undef :: undef :: undef :: undef :: undef :: undef :: undef :: undef :: undef :: undef :: undef :: undef :: undef :: undef :: undef :: undef :: undef :: undef :: undef :: undef :: undef :: undef :: undef :: undef :: undef :: undef :: undef :: undef :: undef :: undef :: undef :: undef :: undef :: undef :: undef :: undef :: undef :: undef :: undef :: undef :: undef :: undef :: undef :: undef :: undef :: undef :: undef :: undef :: undef :: undef :: undef :: undef :: undef :: undef :: undef :: undef :: undef :: undef :: undef :: undef :: undef :: undef :: undef :: undef :: undef :: undef :: undef :: undef :: undef :: undef :: undef :: undef :: undef :: undef :: undef :: undef :: undef :: undef :: List.nil).toArray, []⟩ W := by
  conv => arg 2; whnf
  have LL : Hid (0 < y1 → (y1 - 1) / 64 < C.length) → _ := fun h => law4_T37 a0 fa ca ja pa ea c0 fc cc jc pc ec M F C J P E gen start en en2 y1 y2 w W B sM nM rF rC rJ rP rE qF qC qJ qP qE HB lM lF lC lJ lP hy1 hy2 HJ1 HJ2 hF1 hF2 h
  by_cases h0 : 0 < y1
  · obtain ⟨i1, hi1, hi2⟩ : ∃ i1 : Nat, (y1 : Int) - 1 = (i1 : Int) ∧ i1 = y1 - 1 := ⟨y1 - 1, by omega, rfl⟩
    have hi16 : i1 < 16384 := by omega
    have hyi : (0 : Int) < (y1 : Int) := by omega
    have d6 : decide ((0 : Int) < (y1 : Int)) = true := decide_eq_true (by omega)
    have d6' : decide (0 < y1) = true := decide_eq_true h0
    by_cases hE : C.length ≤ i1 / 64
    · have d7 : decide ((C.length : Int) ≤ (i1 : Int) / 64) = true := decide_eq_true (by omega)
      clear LL hi2
      go_wp2_with fail
      go_ret
      exact ⟨rfl, B⟩
    · have d7 : decide ((C.length : Int) ≤ (i1 : Int) / 64) = false := decide_eq_false (by omega)
      have L := LL (fun _ => by rw [← hi2]; omega)
      clear LL hi2
      go_upto_if 201 with fail
      go_step
      go_step
      go_step
      go_step
      exact L _ _ _ _ _ _ _ _ _ _ _ _ _ _ _ _ _ _ _ _ _ _ _ _ _ _ _ _ _ _ _ _ _ _ _ _ _ _ _ _ _ _ _ _ _ _ _ _ _ _ _ _ _ _ _ _ _ _ _ _ _ _ _ _ _ _ _ _ _ _ _ _ _ _ _ _ _ _ _ _ _ _ _ _ _ _ _ _ _ _ _ _ _ _ _ _ _ _ _ _ _ _ _ _ _ _ _ _ _ _ _ _ _ _ _ _ _ _ _ _ _ _ _ _ _ _ _ _ _ _ _ _ _ _ _ _ _ _ _ _ _ _ _ _ _ _ _ _ _ _ _ _ _ _
  · have d6 : decide ((0 : Int) < (y1 : Int)) = false := decide_eq_false (by omega)
    have d6' : decide (0 < y1) = false := decide_eq_false h0
    have L := LL (fun h => absurd h h0)
    clear LL
    go_upto_if 201 with fail
    go_step
    go_step
    go_step
    go_step
    exact L _ _ _ _ _ _ _ _ _ _ _ _ _ _ _ _ _ _ _ _ _ _ _ _ _ _ _ _ _ _ _ _ _ _ _ _ _ _ _ _ _ _ _ _ _ _ _ _ _ _ _ _ _ _ _ _ _ _ _ _ _ _ _ _ _ _ _ _ _ _ _ _ _ _ _ _ _ _ _ _ _ _ _ _ _ _ _ _ _ _ _ _ _ _ _ _ _ _ _ _ _ _ _ _ _ _ _ _ _ _ _ _ _ _ _ _ _ _ _ _ _ _ _ _ _ _ _ _ _ _ _ _ _ _ _ _ _ _ _ _ _ _ _ _ _ _ _ _ _ _ _ _ _ _
set_option maxRecDepth 1000000 in
set_option maxHeartbeats 4000000 in
theorem law4_T33 (a0 fa ca ja pa ea : Option Addr) (c0 fc cc jc pc ec : Nat) (M F C J P E : List Int) (gen start en en2 : Int) (y1 y2 : Nat) (w W : World) (B : Below w.heap.size w W)
    (sM : RowO W .i64 a0 M) (nM : a0 = none → M.length = 0) (rF : Row W .u64 fa F) (rC : Row W .u64 ca C) (rJ : Row W .i32 ja J) (rP : Row W .i32 pa P) (rE : Row W .i64 ea E)
    (qF : ∀ q, fa = some ⟨q, 0, none⟩ → q < W.heap.size) (qC : ∀ q, ca = some ⟨q, 0, none⟩ → q < W.heap.size) (qJ : ∀ q, ja = some ⟨q, 0, none⟩ → q < W.heap.size)
    (qP : ∀ q, pa = some ⟨q, 0, none⟩ → q < W.heap.size) (qE : ∀ q, ea = some ⟨q, 0, none⟩ → q < W.heap.size)
    (HB : Hid ((∀ j : Nat, 0 ≤ F[j]?.getD 0 ∧ F[j]?.getD 0 ≤ 18446744073709551615) ∧ (∀ j : Nat, 0 ≤ C[j]?.getD 0 ∧ C[j]?.getD 0 ≤ 18446744073709551615) ∧ (∀ j : Nat, -2147483648 ≤ P[j]?.getD 0 ∧ P[j]?.getD 0 ≤ 2147483647) ∧ E.length = P.length))
    (lM : M.length ≤ 16384) (lF : F.length ≤ 4096) (lC : C.length ≤ 4096) (lJ : J.length ≤ 16384) (lP : P.length ≤ 16384)
    (hy1 : y1 < 16384) (hy2 : y2 < 16384) (HJ1 : Hid (y1 < J.length ∧ J[y1]?.getD 0 < 0)) (HJ2 : Hid (y2 < J.length ∧ J[y2]?.getD 0 < 0))
    (u24 u25 u26 u27 u28 u29 u54 u55 u56 u57 u58 u59 u60 u61 u62 u63 u64 u65 u66 u67 u68 u69 u70 u71 u72 u73 u74 u75 u76 u77 u78 u79 u80 u81 u82 u83 u84 u85 u86 u87 u88 u89 u90 u91 u92 u93 u94 u95 u96 u97 u98 u99 u100 u101 u102 u103 u104 u105 u106 u107 u108 u109 u110 u111 u112 u113 u114 u115 u116 u117 u118 u119 u120 u121 u122 u123 u124 u125 u126 u127 u128 u129 u130 u131 u132 u133 u134 u135 u136 u137 u138 u139 u140 u141 u142 u143 u144 u145 u146 u147 u148 u149 u150 u151 u152 u153 u154 u155 u156 u157 u158 u159 u160 u161 u162 u163 u164 u165 u166 u167 u168 u169 u170 u171 u172 u173 u174 u175 u176 u177 u178 u179 : Value) :
    Code.wp Tryd.prog (seqTail 13 (Tryd.f4.body.getD .skip)) (bodyPost Tryd.prog Tryd.f4 (fun e w' => e = .returned (.bool true) ∧ Below w.heap.size w w'))
      ⟨(.slice a0 M.length c0 :: .int .i64 gen :: .int .i64 start :: .slice fa F.length fc :: .slice ca C.length cc :: .slice ja J.length jc :: .slice pa P.length pc :: .slice ea P.length ec :: .int .i32 y1 :: .int .i64 en :: .int .i32 y2 :: .int .i64 en2 :: undef :: undef :: undef :: undef :: undef :: undef :: undef :: undef :: undef :: undef :: undef :: undef :: u24 :: u25 :: u26 :: u27 :: u28 :: u29 :: .int .i64 y1 :: .int .i64 y2 :: undef :: undef :: undef :: undef :: undef :: undef :: undef :: undef :: undef :: undef :: undef :: undef :: undef :: undef :: undef :: undef :: undef :: undef :: undef :: undef :: undef :: undef :: u54 :: u55 :: u56 :: u57 :: u58 :: u59 :: u60 :: u61 :: u62 :: u63 :: u64 :: u65 :: u66 :: u67 :: u68 :: u69 :: u70 :: u71 :: u72 :: u73 :: u74 :: u75 :: u76 :: u77 :: u78 :: u79 :: u80 :: u81 :: u82 :: u83 :: u84 :: u85 :: u86 :: u87 :: u88 :: u89 :: u90 :: u91 :: u92 :: u93 :: u94 :: u95 :: u96 :: u97 :: u98 :: u99 :: u100 :: u101 :: u102 :: u103 :: u104 :: u105 :: u106 :: u107 :: u108 :: u109 :: u110 :: u111 :: u112 :: u113 :: u114 :: u115 :: u116 :: u117 :: u118 :: u119 :: u120 :: u121 :: u122 :: u123 :: u124 :: u125 :: u126 :: u127 :: u128 :: u129 :: u130 :: u131 :: u132 :: u133 :: u134 :: u135 :: u136 :: u137 :: u138 :: u139 :: u140 :: u141 :: u142 :: u143 :: u144 :: u145 :: u146 :: u147 :: u148 :: u149 :: u150 :: u151 :: u152 :: u153 :: u154 :: u155 :: u156 :: u157 :: u158 :: u159 :: u160 :: u161 :: u162 :: u163 :: u164 :: u165 :: u166 :: u167 :: u168 :: u169 :: u170 :: u171 :: u172 :: u173 :: u174 :: u175 :: u176 :: u177 :: u178 :: u179 :: undef :: undef :: undef :: undef :: undef :: undef :: undef :: undef :: undef :: undef :: undef :: undef :: undef :: undef :: undef :: undef :: undef :: undef :: undef :: undef :: undef :: undef :: undef :: undef :: undef :: undef :: undef :: undef :: undef :: undef :: undef :: undef :: undef :: undef :: undef :: undef :: undef :: undef :: undef :: undef :: undef :: undef :: undef :: undef :: undef :: undef :: undef :: undef :: undef :: undef :: undef :: undef :: undef :: undef :: undef :: undef :: undef :: undef :: undef :: undef :: undef :: undef :: undef :: undef :: undef :: undef :: undef :: undef :: undef :: undef :: undef :: undef :: undef :: undef :: undef :: undef :: undef :: undef :: undef :: undef :: undef :: undef :: undef :: undef :: undef :: undef :: undef :: undef :: undef :: undef :: undef :: undef :: undef :: undef :: undef :: undef :: undef :: undef :: undef :: undef :: undef :: undef :: undef :: undef :: undef :: undef :: undef :: undef :: undef :: undef :: undef :: undef :: undef :: undef :: undef :: undef :: undef :: undef :: undef :: undef :: undef :: undef :: undef :: undef :: undef :: undef :: undef :: undef :: undef :: undef :: undef :: undef :: undef :: undef :: undef :: undef :: undef :: undef :: undef :: undef :: undef :: undef :: undef :: undef :: undef :: undef :: undef :: undef :: undef :: undef :: undef :: undef :: undef :: undef :: undef :: undef :: undef :: undef :: undef :: undef :: undef :: undef :: undef :: undef :: undef :: undef :: undef :: undef :: undef :: undef :: undef :: undef :: undef :: undef :: undef :: undef :: undef :: undef :: undef :: undef :: undef :: undef :: undef :: undef :: undef :: undef :: undef :: undef :: undef :: undef :: undef :: undef :: undef :: undef :: undef :: undef :: undef :: undef :: undef :: undef :: undef :: undef :: undef :: undef :: undef :: undef :: undef :: undef :: undef :: undef :: undef :: undef :: undef :: undef :: undef :: undef :: undef :: undef :: undef :: undef :: undef :: undef :: undef :: undef :: undef :: undef :: undef :: undef :: undef :: undef :: undef :: undef :: undef :: undef :: undef :: undef :: undef :: undef :: undef :: undef :: undef :: undef :: undef :: undef :: undef :: undef :: undef :: undef :: undef :: undef :: undef :: undef :: undef :: undef :: undef :: undef :: undef :: undef :: undef :: undef :: undef :: undef :: undef :: undef :: undef :: undef :: undef :: undef :: undef :: undef :: undef :: undef :: undef :: undef :: undef :: undef :: undef :: undef :: undef :: undef :: undef :: undef :: undef :: undef :: undef :: undef :: undef :: undef :: undef :: undef :: undef :: undef :: undef :: undef :: undef :: undef :: undef :: undef :: undef :: undef :: undef :: undef :: undef :: undef :: undef :: undef :: undef :: undef :: undef :: undef :: undef :: undef :: undef :: List.nil).toArray, []⟩ W := by
  conv => arg 2; whnf
  have LL : y1 / 64 < F.length → y2 / 64 < F.length → _ := fun h h' => law4_T35 a0 fa ca ja pa ea c0 fc cc jc pc ec M F C J P E gen start en en2 y1 y2 w W B sM nM rF rC rJ rP rE qF qC qJ qP qE HB lM lF lC lJ lP hy1 hy2 HJ1 HJ2 h h'
  by_cases hD : F.length ≤ y1 / 64
  · have d5 : decide ((F.length : Int) ≤ (y1 : Int) / 64) = true := decide_eq_true (by omega)
    clear LL
    go_wp2_with fail
    go_ret
    exact ⟨rfl, B⟩
  · have d5 : decide ((F.length : Int) ≤ (y1 : Int) / 64) = false := decide_eq_false (by omega)
    by_cases hD2 : F.length ≤ y2 / 64
    · have d6 : decide ((F.length : Int) ≤ (y2 : Int) / 64) = true := decide_eq_true (by omega)
      clear LL
      go_wp2_with fail
      go_ret
      exact ⟨rfl, B⟩
    · have d6 : decide ((F.length : Int) ≤ (y2 : Int) / 64) = false := decide_eq_false (by omega)
      have L := LL (by omega) (by omega)
      clear LL
      go_upto_if 191 with fail
      go_step
      go_step
      go_step
      go_step
      exact L _ _ _ _ _ _ _ _ _ _ _ _ _ _ _ _ _ _ _ _ _ _ _ _ _ _ _ _ _ _ _ _ _ _ _ _ _ _ _ _ _ _ _ _ _ _ _ _ _ _ _ _ _ _ _ _ _ _ _ _ _ _ _ _ _ _ _ _ _ _ _ _ _ _ _ _ _ _ _ _ _ _ _ _ _ _ _ _ _ _ _ _ _ _ _ _ _ _ _ _ _ _ _ _ _ _ _ _ _ _ _ _ _ _ _ _ _ _ _ _ _ _ _ _ _ _ _ _ _ _ _ _ _ _ _ _ _ _ _ _ _ _ _ _
set_option maxRecDepth 1000000 in
set_option maxHeartbeats 4000000 in
theorem law4_T31 (a0 fa ca ja pa ea : Option Addr) (c0 fc cc jc pc ec : Nat) (M F C J P E : List Int) (gen start en en2 : Int) (y1 : Nat) (pos2 : Int) (w W : World) (B : Below w.heap.size w W)
    (sM : RowO W .i64 a0 M) (nM : a0 = none → M.length = 0) (rF : Row W .u64 fa F) (rC : Row W .u64 ca C) (rJ : Row W .i32 ja J) (rP : Row W .i32 pa P) (rE : Row W .i64 ea E)
    (qF : ∀ q, fa = some ⟨q, 0, none⟩ → q < W.heap.size) (qC : ∀ q, ca = some ⟨q, 0, none⟩ → q < W.heap.size) (qJ : ∀ q, ja = some ⟨q, 0, none⟩ → q < W.heap.size)
    (qP : ∀ q, pa = some ⟨q, 0, none⟩ → q < W.heap.size) (qE : ∀ q, ea = some ⟨q, 0, none⟩ → q < W.heap.size)
    (HB : Hid ((∀ j : Nat, 0 ≤ F[j]?.getD 0 ∧ F[j]?.getD 0 ≤ 18446744073709551615) ∧ (∀ j : Nat, 0 ≤ C[j]?.getD 0 ∧ C[j]?.getD 0 ≤ 18446744073709551615) ∧ (∀ j : Nat, -2147483648 ≤ P[j]?.getD 0 ∧ P[j]?.getD 0 ≤ 2147483647) ∧ E.length = P.length))
    (lM : M.length ≤ 16384) (lF : F.length ≤ 4096) (lC : C.length ≤ 4096) (lJ : J.length ≤ 16384) (lP : P.length ≤ 16384)
    (hy1 : y1 < 16384) (HJ1 : Hid (y1 < J.length ∧ J[y1]?.getD 0 < 0)) (hpos : -2147483648 ≤ pos2 ∧ pos2 ≤ 2147483647)
    (u24 u25 u26 u27 u28 u29 u54 u55 u56 u57 u58 u59 u60 u61 u62 u63 u64 u65 u66 u67 u68 u69 u70 u71 u72 u73 u74 u75 u76 u77 u78 u79 u80 u81 u82 u83 u84 u85 u86 u87 u88 u89 u90 u91 u92 u93 u94 u95 u96 u97 u98 u99 u100 u101 u102 u103 u104 u105 u106 u107 u108 u109 u110 u111 u112 u113 u114 u115 u116 u117 u118 u119 u120 u121 u122 u123 u124 u125 u126 u127 u128 u129 u130 u131 u132 u133 u134 u135 u136 u137 u138 u139 u140 u141 u142 u143 u144 u145 u146 u147 u148 u149 u150 u151 u152 u153 u154 u155 u156 u157 u158 u159 u160 u161 u162 u163 u164 : Value) :
    Code.wp Tryd.prog (seqTail 12 (Tryd.f4.body.getD .skip)) (bodyPost Tryd.prog Tryd.f4 (fun e w' => e = .returned (.bool true) ∧ Below w.heap.size w w'))
      ⟨(.slice a0 M.length c0 :: .int .i64 gen :: .int .i64 start :: .slice fa F.length fc :: .slice ca C.length cc :: .slice ja J.length jc :: .slice pa P.length pc :: .slice ea P.length ec :: .int .i32 y1 :: .int .i64 en :: .int .i32 pos2 :: .int .i64 en2 :: undef :: undef :: undef :: undef :: undef :: undef :: undef :: undef :: undef :: undef :: undef :: undef :: u24 :: u25 :: u26 :: u27 :: u28 :: u29 :: .int .i64 y1 :: .int .i64 pos2 :: undef :: undef :: undef :: undef :: undef :: undef :: undef :: undef :: undef :: undef :: undef :: undef :: undef :: undef :: undef :: undef :: undef :: undef :: undef :: undef :: undef :: undef :: u54 :: u55 :: u56 :: u57 :: u58 :: u59 :: u60 :: u61 :: u62 :: u63 :: u64 :: u65 :: u66 :: u67 :: u68 :: u69 :: u70 :: u71 :: u72 :: u73 :: u74 :: u75 :: u76 :: u77 :: u78 :: u79 :: u80 :: u81 :: u82 :: u83 :: u84 :: u85 :: u86 :: u87 :: u88 :: u89 :: u90 :: u91 :: u92 :: u93 :: u94 :: u95 :: u96 :: u97 :: u98 :: u99 :: u100 :: u101 :: u102 :: u103 :: u104 :: u105 :: u106 :: u107 :: u108 :: u109 :: u110 :: u111 :: u112 :: u113 :: u114 :: u115 :: u116 :: u117 :: u118 :: u119 :: u120 :: u121 :: u122 :: u123 :: u124 :: u125 :: u126 :: u127 :: u128 :: u129 :: u130 :: u131 :: u132 :: u133 :: u134 :: u135 :: u136 :: u137 :: u138 :: u139 :: u140 :: u141 :: u142 :: u143 :: u144 :: u145 :: u146 :: u147 :: u148 :: u149 :: u150 :: u151 :: u152 :: u153 :: u154 :: u155 :: u156 :: u157 :: u158 :: u159 :: u160 :: u161 :: u162 :: u163 :: u164 :: undef :: undef :: undef :: undef :: undef :: undef :: undef :: undef :: undef :: undef :: undef :: undef :: undef :: undef :: undef :: undef :: undef :: undef :: undef :: undef :: undef :: undef :: undef :: undef :: undef :: undef :: undef :: undef :: undef :: undef :: undef :: undef :: undef :: undef :: undef :: undef :: undef :: undef :: undef :: undef :: undef :: undef :: undef :: undef :: undef :: undef :: undef :: undef :: undef :: undef :: undef :: undef :: undef :: undef :: undef :: undef :: undef :: undef :: undef :: undef :: undef :: undef :: undef :: undef :: undef :: undef :: undef :: undef :: undef :: undef :: undef :: undef :: undef :: undef :: undef :: undef :: undef :: undef :: undef :: undef :: undef :: undef :: undef :: undef :: undef :: undef :: undef :: undef :: undef :: undef :: undef :: undef :: undef :: undef :: undef :: undef :: undef :: undef :: undef :: undef :: undef :: undef :: undef :: undef :: undef :: undef :: undef :: undef :: undef :: undef :: undef :: undef :: undef :: undef :: undef :: undef :: undef :: undef :: undef :: undef :: undef :: undef :: undef :: undef :: undef :: undef :: undef :: undef :: undef :: undef :: undef :: undef :: undef :: undef :: undef :: undef :: undef :: undef :: undef :: undef :: undef :: undef :: undef :: undef :: undef :: undef :: undef :: undef :: undef :: undef :: undef :: undef :: undef :: undef :: undef :: undef :: undef :: undef :: undef :: undef :: undef :: undef :: undef :: undef :: undef :: undef :: undef :: undef :: undef :: undef :: undef :: undef :: undef :: undef :: undef :: undef :: undef :: undef :: undef :: undef :: undef :: undef :: undef :: undef :: undef :: undef :: undef :: undef :: undef :: undef :: undef :: undef :: undef :: undef :: undef :: undef :: undef :: undef :: undef :: undef :: undef :: undef :: undef :: undef :: undef :: undef :: undef :: undef :: undef :: undef :: undef :: undef :: undef :: undef :: undef :: undef :: undef :: undef :: undef :: undef :: undef :: undef :: undef :: undef :: undef :: undef :: undef :: undef :: undef :: undef :: undef :: undef :: undef :: undef :: undef :: undef :: undef :: undef :: undef :: undef :: undef :: undef :: undef :: undef :: undef :: undef :: undef :: undef :: undef :: undef :: undef :: undef :: undef :: undef :: undef :: undef :: undef :: undef :: undef :: undef :: undef :: undef :: undef :: undef :: undef :: undef :: undef :: undef :: undef :: undef :: undef :: undef :: undef :: undef :: undef :: undef :: undef :: undef :: undef :: undef :: undef :: undef :: undef :: undef :: undef :: undef :: undef :: undef :: undef :: undef :: undef :: undef :: undef :: undef :: undef :: undef :: undef :: undef :: undef :: undef :: undef :: undef :: undef :: undef :: undef :: undef :: undef :: undef :: undef :: undef :: undef :: undef :: undef :: undef :: undef :: undef :: undef :: undef :: undef :: undef :: undef :: undef :: undef :: undef :: undef :: undef :: undef :: undef :: List.nil).toArray, []⟩ W := by
  conv => arg 2; whnf
  have hp1 := hpos.1
  have hp2 := hpos.2
  clear hpos
  by_cases hA : pos2 < 0
  · have d1 : decide (pos2 < 0) = true := decide_eq_true hA
    go_wp2_with fail
    go_ret
    exact ⟨rfl, B⟩
  obtain ⟨y2, rfl⟩ : ∃ y2 : Nat, pos2 = (y2 : Int) := ⟨pos2.toNat, by omega⟩
  have d1 : decide ((y2 : Int) < 0) = false := decide_eq_false (by omega)
  clear hA
  by_cases hB : J.length ≤ y2
  · have d2 : decide ((J.length : Int) ≤ (y2 : Int)) = true := decide_eq_true (by omega)
    have d3 : decide (J.length ≤ y2) = true := decide_eq_true hB
    go_wp2_with fail
    go_ret
    exact ⟨rfl, B⟩
  have d2 : decide ((J.length : Int) ≤ (y2 : Int)) = false := decide_eq_false (by omega)
  have d3 : decide (J.length ≤ y2) = false := decide_eq_false hB
  have hJ : y2 < J.length := by omega
  have hJi : (y2 : Int) < (J.length : Int) := by omega
  have hyb : y2 < 16384 := by omega
  obtain ⟨qj, hqj, cJ0⟩ := rJ.look y2 _ (getD_some hJ)
  obtain ⟨jv, hjv⟩ : ∃ jv, jv = J[y2]?.getD 0 := ⟨_, rfl⟩
  have cJ : W.cell? ⟨qj, y2, none⟩ = some (.int .i32 jv) := by rw [hjv]; exact cJ0
  have HJV : Hid (jv = J[y2]?.getD 0) := hjv
  clear hjv cJ0
  have LL := fun (h : Hid (y2 < J.length ∧ J[y2]?.getD 0 < 0)) => law4_T33 a0 fa ca ja pa ea c0 fc cc jc pc ec M F C J P E gen start en en2 y1 y2 w W B sM nM rF rC rJ rP rE qF qC qJ qP qE HB lM lF lC lJ lP hy1 hyb HJ1 h
  subst hqj
  by_cases hC : 0 ≤ jv
  · have d4 : decide (0 ≤ jv) = true := decide_eq_true hC
    clear LL
    go_wp2_with fail
    go_ret
    exact ⟨rfl, B⟩
  have d4 : decide (0 ≤ jv) = false := decide_eq_false hC
  have L := LL ⟨hJ, by rw [← HJV.out]; omega⟩
  clear LL
  go_upto_if 179 with fail
  go_step
  go_step
  go_step
  go_step
  exact L _ _ _ _ _ _ _ _ _ _ _ _ _ _ _ _ _ _ _ _ _ _ _ _ _ _ _ _ _ _ _ _ _ _ _ _ _ _ _ _ _ _ _ _ _ _ _ _ _ _ _ _ _ _ _ _ _ _ _ _ _ _ _ _ _ _ _ _ _ _ _ _ _ _ _ _ _ _ _ _ _ _ _ _ _ _ _ _ _ _ _ _ _ _ _ _ _ _ _ _ _ _ _ _ _ _ _ _ _ _ _ _ _ _ _ _ _ _ _ _ _ _ _ _ _ _ _ _ _ _ _ _
set_option maxRecDepth 1000000 in
set_option maxHeartbeats 4000000 in
theorem law4_T29 (a0 fa ca ja pa ea : Option Addr) (c0 fc cc jc pc ec : Nat) (M F C J P E : List Int) (gen start en en2 : Int) (pos1 pos2 : Int) (w W : World) (B : Below w.heap.size w W)
    (sM : RowO W .i64 a0 M) (nM : a0 = none → M.length = 0) (rF : Row W .u64 fa F) (rC : Row W .u64 ca C) (rJ : Row W .i32 ja J) (rP : Row W .i32 pa P) (rE : Row W .i64 ea E)
    (qF : ∀ q, fa = some ⟨q, 0, none⟩ → q < W.heap.size) (qC : ∀ q, ca = some ⟨q, 0, none⟩ → q < W.heap.size) (qJ : ∀ q, ja = some ⟨q, 0, none⟩ → q < W.heap.size)
    (qP : ∀ q, pa = some ⟨q, 0, none⟩ → q < W.heap.size) (qE : ∀ q, ea = some ⟨q, 0, none⟩ → q < W.heap.size)
    (HB : Hid ((∀ j : Nat, 0 ≤ F[j]?.getD 0 ∧ F[j]?.getD 0 ≤ 18446744073709551615) ∧ (∀ j : Nat, 0 ≤ C[j]?.getD 0 ∧ C[j]?.getD 0 ≤ 18446744073709551615) ∧ (∀ j : Nat, -2147483648 ≤ P[j]?.getD 0 ∧ P[j]?.getD 0 ≤ 2147483647) ∧ E.length = P.length))
    (lM : M.length ≤ 16384) (lF : F.length ≤ 4096) (lC : C.length ≤ 4096) (lJ : J.length ≤ 16384) (lP : P.length ≤ 16384)
    (hpos : -2147483648 ≤ pos1 ∧ pos1 ≤ 2147483647) (hpos2 : -2147483648 ≤ pos2 ∧ pos2 ≤ 2147483647)
    (u24 u25 u26 u27 u28 u29 u54 u55 u56 u57 u58 u59 u60 u61 u62 u63 u64 u65 u66 u67 u68 u69 u70 u71 u72 u73 u74 u75 u76 u77 u78 u79 u80 u81 u82 u83 u84 u85 u86 u87 u88 u89 u90 u91 u92 u93 u94 u95 u96 u97 u98 u99 u100 u101 u102 u103 u104 u105 u106 u107 u108 u109 u110 u111 u112 u113 u114 u115 u116 u117 u118 u119 u120 u121 u122 u123 u124 u125 u126 u127 u128 u129 u130 u131 u132 u133 u134 u135 u136 u137 u138 u139 u140 u141 u142 u143 u144 u145 : Value) :
    Code.wp Tryd.prog (seqTail 9 (Tryd.f4.body.getD .skip)) (bodyPost Tryd.prog Tryd.f4 (fun e w' => e = .returned (.bool true) ∧ Below w.heap.size w w'))
      ⟨(.slice a0 M.length c0 :: .int .i64 gen :: .int .i64 start :: .slice fa F.length fc :: .slice ca C.length cc :: .slice ja J.length jc :: .slice pa P.length pc :: .slice ea P.length ec :: .int .i32 pos1 :: .int .i64 en :: .int .i32 pos2 :: .int .i64 en2 :: undef :: undef :: undef :: undef :: undef :: undef :: undef :: undef :: undef :: undef :: undef :: undef :: u24 :: u25 :: u26 :: u27 :: u28 :: u29 :: undef :: undef :: undef :: undef :: undef :: undef :: undef :: undef :: undef :: undef :: undef :: undef :: undef :: undef :: undef :: undef :: undef :: undef :: undef :: undef :: undef :: undef :: undef :: undef :: u54 :: u55 :: u56 :: u57 :: u58 :: u59 :: u60 :: u61 :: u62 :: u63 :: u64 :: u65 :: u66 :: u67 :: u68 :: u69 :: u70 :: u71 :: u72 :: u73 :: u74 :: u75 :: u76 :: u77 :: u78 :: u79 :: u80 :: u81 :: u82 :: u83 :: u84 :: u85 :: u86 :: u87 :: u88 :: u89 :: u90 :: u91 :: u92 :: u93 :: u94 :: u95 :: u96 :: u97 :: u98 :: u99 :: u100 :: u101 :: u102 :: u103 :: u104 :: u105 :: u106 :: u107 :: u108 :: u109 :: u110 :: u111 :: u112 :: u113 :: u114 :: u115 :: u116 :: u117 :: u118 :: u119 :: u120 :: u121 :: u122 :: u123 :: u124 :: u125 :: u126 :: u127 :: u128 :: u129 :: u130 :: u131 :: u132 :: u133 :: u134 :: u135 :: u136 :: u137 :: u138 :: u139 :: u140 :: u141 :: u142 :: u143 :: u144 :: u145 :: undef :: undef :: undef :: undef :: undef :: undef :: undef :: undef :: undef :: undef :: undef :: undef :: undef :: undef :: undef :: undef :: undef :: undef :: undef :: undef :: undef :: undef :: undef :: undef :: undef :: undef :: undef :: undef :: undef :: undef :: undef :: undef :: undef :: undef :: undef :: undef :: undef :: undef :: undef :: undef :: undef :: undef :: undef :: undef :: undef :: undef :: undef :: undef :: undef :: undef :: undef :: undef :: undef :: undef :: undef :: undef :: undef :: undef :: undef :: undef :: undef :: undef :: undef :: undef :: undef :: undef :: undef :: undef :: undef :: undef :: undef :: undef :: undef :: undef :: undef :: undef :: undef :: undef :: undef :: undef :: undef :: undef :: undef :: undef :: undef :: undef :: undef :: undef :: undef :: undef :: undef :: undef :: undef :: undef :: undef :: undef :: undef :: undef :: undef :: undef :: undef :: undef :: undef :: undef :: undef :: undef :: undef :: undef :: undef :: undef :: undef :: undef :: undef :: undef :: undef :: undef :: undef :: undef :: undef :: undef :: undef :: undef :: undef :: undef :: undef :: undef :: undef :: undef :: undef :: undef :: undef :: undef :: undef :: undef :: undef :: undef :: undef :: undef :: undef :: undef :: undef :: undef :: undef :: undef :: undef :: undef :: undef :: undef :: undef :: undef :: undef :: undef :: undef :: undef :: undef :: undef :: undef :: undef :: undef :: undef :: undef :: undef :: undef :: undef :: undef :: undef :: undef :: undef :: undef :: undef :: undef :: undef :: undef :: undef :: undef :: undef :: undef :: undef :: undef :: undef :: undef :: undef :: undef :: undef :: undef :: undef :: undef :: undef :: undef :: undef :: undef :: undef :: undef :: undef :: undef :: undef :: undef :: undef :: undef :: undef :: undef :: undef :: undef :: undef :: undef :: undef :: undef :: undef :: undef :: undef :: undef :: undef :: undef :: undef :: undef :: undef :: undef :: undef :: undef :: undef :: undef :: undef :: undef :: undef :: undef :: undef :: undef :: undef :: undef :: undef :: undef :: undef :: undef :: undef :: undef :: undef :: undef :: undef :: undef :: undef :: undef :: undef :: undef :: undef :: undef :: undef :: undef :: undef :: undef :: undef :: undef :: undef :: undef :: undef :: undef :: undef :: undef :: undef :: undef :: undef :: undef :: undef :: undef :: undef :: undef :: undef :: undef :: undef :: undef :: undef :: undef :: undef :: undef :: undef :: undef :: undef :: undef :: undef :: undef :: undef :: undef :: undef :: undef :: undef :: undef :: undef :: undef :: undef :: undef :: undef :: undef :: undef :: undef :: undef :: undef :: undef :: undef :: undef :: undef :: undef :: undef :: undef :: undef :: undef :: undef :: undef :: undef :: undef :: undef :: undef :: undef :: undef :: undef :: undef :: undef :: undef :: undef :: undef :: undef :: undef :: undef :: undef :: undef :: undef :: undef :: undef :: undef :: undef :: undef :: undef :: undef :: undef :: undef :: undef :: undef :: undef :: undef :: undef :: undef :: undef :: undef :: undef :: undef :: undef :: undef :: undef :: undef :: List.nil).toArray, []⟩ W := by
  conv => arg 2; whnf
  have hp1 := hpos.1
  have hp2 := hpos.2
  clear hpos
  by_cases hA : pos1 < 0
  · have d1 : decide (pos1 < 0) = true := decide_eq_true hA
    go_wp2_with fail
    go_ret
    exact ⟨rfl, B⟩
  obtain ⟨y1, rfl⟩ : ∃ y1 : Nat, pos1 = (y1 : Int) := ⟨pos1.toNat, by omega⟩
  have d1 : decide ((y1 : Int) < 0) = false := decide_eq_false (by omega)
  clear hA
  by_cases hB : J.length ≤ y1
  · have d2 : decide ((J.length : Int) ≤ (y1 : Int)) = true := decide_eq_true (by omega)
    have d3 : decide (J.length ≤ y1) = true := decide_eq_true hB
    go_wp2_with fail
    go_ret
    exact ⟨rfl, B⟩
  have d2 : decide ((J.length : Int) ≤ (y1 : Int)) = false := decide_eq_false (by omega)
  have d3 : decide (J.length ≤ y1) = false := decide_eq_false hB
  have hJ : y1 < J.length := by omega
  have hJi : (y1 : Int) < (J.length : Int) := by omega
  have hyb : y1 < 16384 := by omega
  obtain ⟨qj, hqj, cJ0⟩ := rJ.look y1 _ (getD_some hJ)
  obtain ⟨jv, hjv⟩ : ∃ jv, jv = J[y1]?.getD 0 := ⟨_, rfl⟩
  have cJ : W.cell? ⟨qj, y1, none⟩ = some (.int .i32 jv) := by rw [hjv]; exact cJ0
  have HJV : Hid (jv = J[y1]?.getD 0) := hjv
  clear hjv cJ0
  have LL := fun (h : Hid (y1 < J.length ∧ J[y1]?.getD 0 < 0)) => law4_T31 a0 fa ca ja pa ea c0 fc cc jc pc ec M F C J P E gen start en en2 y1 pos2 w W B sM nM rF rC rJ rP rE qF qC qJ qP qE HB lM lF lC lJ lP hyb h hpos2
  subst hqj
  by_cases hC : 0 ≤ jv
  · have d4 : decide (0 ≤ jv) = true := decide_eq_true hC
    clear LL
    go_wp2_with fail
    go_ret
    exact ⟨rfl, B⟩
  have d4 : decide (0 ≤ jv) = false := decide_eq_false hC
  have L := LL ⟨hJ, by rw [← HJV.out]; omega⟩
  clear LL
  go_upto_if 164 with fail
  go_step
  go_step
  go_step
  go_step
  exact L _ _ _ _ _ _ _ _ _ _ _ _ _ _ _ _ _ _ _ _ _ _ _ _ _ _ _ _ _ _ _ _ _ _ _ _ _ _ _ _ _ _ _ _ _ _ _ _ _ _ _ _ _ _ _ _ _ _ _ _ _ _ _ _ _ _ _ _ _ _ _ _ _ _ _ _ _ _ _ _ _ _ _ _ _ _ _ _ _ _ _ _ _ _ _ _ _ _ _ _ _ _ _ _ _ _ _ _ _ _ _ _ _ _ _ _ _
end Go.Proofs.Qxb6613719aDoor
