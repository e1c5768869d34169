import Derived.Test.Qxb6613719aDoorHead
namespace Go.Proofs.Qxb6613719aDoor
open Go.RowKit
set_option linter.unusedVariables false
set_option maxRecDepth 1000000 in
set_option maxHeartbeats 4000000 in
theorem law3_D (a0 pa ma : Option Addr) (c0 pc q1 : Nat) (M M2 P OP : List Int) (gen start y : Int) (bc bf : Bool) (w W : World) (B : Below w.heap.size w W)
    (sM : RowO W .i64 a0 M) (rO : Row W .i32 (some ⟨q1, 0, none⟩) OP) (rA : Row W .i64 ma M2)
    (lM : M.length ≤ 16384) (l2 : M2.length = M.length) (lO : OP.length ≤ 20000) (lP : P.length ≤ OP.length) (hy0 : 0 ≤ y) (hy1 : y < 16384)
    (bO : ∀ j : Nat, -2147483648 ≤ OP[j]?.getD 0 ∧ OP[j]?.getD 0 ≤ 2147483647)
    (hcnt : ∀ x : Nat, x < M.length → countOf x (OP.drop P.length) = if reachB bc bf y start x = true ∧ ¬ M[x]?.getD 0 = gen then 1 else 0)
    (hmrk : ∀ x : Nat, x < M.length → M2[x]?.getD 0 = if reachB bc bf y start x = true then gen else M[x]?.getD 0)
    (u3 u4 u5 u7 u8 u9 u20 u21 u22 u23 u24 u25 u29 u30 u31 u33 u35 u40 u41 u42 u43 u44 u45 u46 u47 u48 u49 u50 u51 u52 u53 u54 u55 u56 u57 u58 u59 u60 u61 u62 u63 u64 u65 u66 u67 u68 u69 u70 u71 u72 u73 u74 u75 u76 u77 u78 u79 u80 u81 u82 u83 u84 u85 u86 u87 u88 u89 u90 u91 u92 u93 u94 u95 u96 u97 u98 u99 u100 u101 u102 u103 u104 u105 u106 u107 u108 u109 u110 u111 u112 u113 u114 u115 u116 u117 u118 u119 u120 u121 u122 u123 u124 u125 u126 u127 u128 u129 u130 u131 u132 u133 u134 u135 u136 u137 u138 u139 u140 u141 u142 u143 u144 u145 u146 u147 u148 u149 u150 u151 u152 u153 u154 u155 u156 u157 u158 u159 u160 u161 u162 u163 u164 u165 u166 u167 u168 u169 u170 u171 u172 u173 u174 u175 u176 u177 u178 u179 u180 u181 u182 u183 u184 u185 u186 u187 u188 u189 u190 u191 u192 u193 u194 u195 u196 u197 u198 u199 u200 u201 u202 u203 u204 u205 u206 u207 u208 u209 u210 u211 u212 u213 u214 u215 u216 u217 u218 u219 u220 u221 u222 u223 u224 u225 u226 u227 u228 u229 u230 u231 u232 u233 u234 u235 u236 u237 u238 u239 u240 u241 u242 u243 u244 u245 u246 u247 u248 u249 u250 u251 u252 u253 u254 u255 : Value) :
    Code.wp Tryd.prog (seqTail 25 (Tryd.f3.body.getD .skip)) (bodyPost Tryd.prog Tryd.f3 (fun e w' => e = .returned (.bool true) ∧ Below w.heap.size w w'))
      ⟨(.slice a0 M.length c0 :: .int .i64 gen :: .int .i64 start :: u3 :: u4 :: u5 :: .slice pa P.length pc :: u7 :: u8 :: u9 :: undef :: undef :: undef :: undef :: undef :: undef :: undef :: undef :: undef :: undef :: u20 :: u21 :: u22 :: u23 :: u24 :: u25 :: .int .i64 y :: .bool bc :: .bool bf :: u29 :: u30 :: u31 :: .slice (some ⟨q1, 0, none⟩) OP.length OP.length :: u33 :: .slice ma M.length M.length :: u35 :: undef :: undef :: undef :: undef :: u40 :: u41 :: u42 :: u43 :: u44 :: u45 :: u46 :: u47 :: u48 :: u49 :: u50 :: u51 :: u52 :: u53 :: u54 :: u55 :: u56 :: u57 :: u58 :: u59 :: u60 :: u61 :: u62 :: u63 :: u64 :: u65 :: u66 :: u67 :: u68 :: u69 :: u70 :: u71 :: u72 :: u73 :: u74 :: u75 :: u76 :: u77 :: u78 :: u79 :: u80 :: u81 :: u82 :: u83 :: u84 :: u85 :: u86 :: u87 :: u88 :: u89 :: u90 :: u91 :: u92 :: u93 :: u94 :: u95 :: u96 :: u97 :: u98 :: u99 :: u100 :: u101 :: u102 :: u103 :: u104 :: u105 :: u106 :: u107 :: u108 :: u109 :: u110 :: u111 :: u112 :: u113 :: u114 :: u115 :: u116 :: u117 :: u118 :: u119 :: u120 :: u121 :: u122 :: u123 :: u124 :: u125 :: u126 :: u127 :: u128 :: u129 :: u130 :: u131 :: u132 :: u133 :: u134 :: u135 :: u136 :: u137 :: u138 :: u139 :: u140 :: u141 :: u142 :: u143 :: u144 :: u145 :: u146 :: u147 :: u148 :: u149 :: u150 :: u151 :: u152 :: u153 :: u154 :: u155 :: u156 :: u157 :: u158 :: u159 :: u160 :: u161 :: u162 :: u163 :: u164 :: u165 :: u166 :: u167 :: u168 :: u169 :: u170 :: u171 :: u172 :: u173 :: u174 :: u175 :: u176 :: u177 :: u178 :: u179 :: u180 :: u181 :: u182 :: u183 :: u184 :: u185 :: u186 :: u187 :: u188 :: u189 :: u190 :: u191 :: u192 :: u193 :: u194 :: u195 :: u196 :: u197 :: u198 :: u199 :: u200 :: u201 :: u202 :: u203 :: u204 :: u205 :: u206 :: u207 :: u208 :: u209 :: u210 :: u211 :: u212 :: u213 :: u214 :: u215 :: u216 :: u217 :: u218 :: u219 :: u220 :: u221 :: u222 :: u223 :: u224 :: u225 :: u226 :: u227 :: u228 :: u229 :: u230 :: u231 :: u232 :: u233 :: u234 :: u235 :: u236 :: u237 :: u238 :: u239 :: u240 :: u241 :: u242 :: u243 :: u244 :: u245 :: u246 :: u247 :: u248 :: u249 :: u250 :: u251 :: u252 :: u253 :: u254 :: u255 :: undef :: undef :: undef :: undef :: undef :: undef :: undef :: undef :: undef :: undef :: undef :: undef :: undef :: undef :: undef :: undef :: undef :: undef :: undef :: undef :: undef :: undef :: undef :: undef :: undef :: undef :: undef :: undef :: undef :: undef :: undef :: undef :: undef :: undef :: undef :: undef :: undef :: undef :: undef :: undef :: undef :: undef :: undef :: undef :: undef :: undef :: undef :: undef :: undef :: undef :: List.nil).toArray, []⟩ W := by
  conv => arg 2; whnf
  have HCN : Hid (∀ x : Nat, x < M.length → countOf x (OP.drop P.length) = if reachB bc bf y start x = true ∧ ¬ M[x]?.getD 0 = gen then 1 else 0) := hcnt
  have HMR : Hid (∀ x : Nat, x < M.length → M2[x]?.getD 0 = if reachB bc bf y start x = true then gen else M[x]?.getD 0) := hmrk
  have HBO : Hid (∀ j : Nat, -2147483648 ≤ OP[j]?.getD 0 ∧ OP[j]?.getD 0 ≤ 2147483647) := bO
  have HL2 : Hid (M2.length = M.length) := l2
  clear hcnt hmrk bO l2
  go_wp2_with fail
  go_loop [36] (fun i => ∃ k : Nat, k ≤ M.length ∧ i = .int .i64 k) (fun i => M.length - (intOf i).toNat)
  case atStart => exact ⟨0, Nat.zero_le _, rfl⟩
  case round =>
    obtain ⟨k, hk, rfl⟩ := hrel
    by_cases hlt : k < M.length
    · obtain ⟨b0, o0, hb0, cM⟩ := sM.look k _ (getD_some hlt)
      obtain ⟨qa, hqa, cA⟩ := rA.look k _ (getD_some (by have := HL2.out; omega))
      subst hb0
      subst hqa
      rw [HMR.out k hlt] at cA
      obtain ⟨mx, hmx⟩ : ∃ mx, mx = M[k]?.getD 0 := ⟨_, rfl⟩
      have HMX : Hid (mx = M[k]?.getD 0) := hmx
      rw [← hmx] at cM cA
      have hcn := HCN.out k hlt
      rw [← hmx] at hcn
      clear hmx
      have hli : (k : Int) < (M.length : Int) := by omega
      go_upto_region 57 with fail
      go_cut [37] from 262 to 276 (fun s wc => s = .bool (reachB bc bf y start k) ∧ wc = W)
      case first =>
        obtain ⟨p1, hp1⟩ : ∃ p1 : Bool, ((k : Int) == y - 1) = p1 := ⟨_, rfl⟩
        obtain ⟨p2, hp2⟩ : ∃ p2 : Bool, ((k : Int) == start) = p2 := ⟨_, rfl⟩
        have hre : reachB bc bf y start k = ((bc && p1) || (bf && p2)) := by unfold reachB; rw [hp1, hp2]
        have HRE : Hid (reachB bc bf y start k = ((bc && p1) || (bf && p2))) := hre
        clear hre hcn cA cM
        cases bc
        · cases bf
          · go_wp2_with fail
            go_meet
            case rel => exact ⟨by rw [HRE.out]; rfl, rfl⟩
          · go_wp2_with fail
            go_meet
            case rel => exact ⟨by rw [HRE.out]; cases p2 <;> rfl, rfl⟩
        · cases p1
          · cases bf
            · go_wp2_with fail
              go_meet
              case rel => exact ⟨by rw [HRE.out]; rfl, rfl⟩
            · go_wp2_with fail
              go_meet
              case rel => exact ⟨by rw [HRE.out]; cases p2 <;> rfl, rfl⟩
          · go_wp2_with fail
            go_meet
            case rel => exact ⟨by rw [HRE.out]; rfl, rfl⟩
      case rest =>
        obtain ⟨rfl, hwc⟩ := hcut
        subst hwc
        obtain ⟨rr, hrr⟩ : ∃ rr, rr = reachB bc bf y start k := ⟨_, rfl⟩
        have HRR : Hid (rr = reachB bc bf y start k) := hrr
        rw [← hrr] at cA hcn ⊢
        clear hrr
        have RC : RowO wc .i32 (some ⟨q1, P.length, none⟩) (OP.drop P.length) := ⟨fun j z hj => by
          rw [List.getElem?_drop] at hj
          obtain ⟨q, hq, hc⟩ := rO.look _ z hj
          cases hq
          exact ⟨q1, P.length, rfl, hc⟩⟩
        have RN : ∀ a, OP.drop P.length = [] → RowO wc .i32 a (OP.drop P.length) := fun a h0 => ⟨fun j z hj => by rw [h0] at hj; simp at hj⟩
        have hbd : ∀ j : Nat, -2147483648 ≤ (OP.drop P.length)[j]?.getD 0 ∧ (OP.drop P.length)[j]?.getD 0 ≤ 2147483647 := fun j => by rw [List.getElem?_drop]; exact HBO.out _
        have hdl : (OP.drop P.length).length = OP.length - P.length := List.length_drop
        cases rr
        · rw [if_neg (by simp)] at cA hcn
          by_cases hA : P.length < OP.length
          · have CT := count_any (some ⟨q1, P.length, none⟩) (OP.length - P.length) (OP.drop P.length) k wc (by omega) hbd RC
            rw [hdl, hcn] at CT
            clear hcn hbd hdl RN RC
            go_wp2_with fail
            refine CT.mono ?_
            rintro e w' ⟨rfl, hw'⟩
            rw [hw']
            clear hw' w'
            go_wp2_with fail
            go_round
            case rel => exact ⟨k + 1, by omega, by go_num⟩
            case measure => simp [intOf]; omega
          · have HZ : Hid (OP.length - P.length = 0) := (by omega : OP.length - P.length = 0)
            have CT := fun a => count_any a (OP.length - P.length) (OP.drop P.length) k wc (by omega) hbd (RN a (List.eq_nil_of_length_eq_zero (by omega)))
            rw [hdl, hcn] at CT
            clear hcn hbd hdl RN RC
            go_wp2_with fail
            refine (CT _).mono ?_
            rintro e w' ⟨rfl, hw'⟩
            rw [hw']
            clear hw' w'
            go_wp2_with fail
            go_round
            case rel => exact ⟨k + 1, by omega, by go_num⟩
            case measure => simp [intOf]; omega
        · rw [if_pos rfl] at cA
          by_cases hg : mx = gen
          · rw [if_neg (by simp [hg])] at hcn
            have hne : (mx != gen) = false := by simp [hg]
            clear hg
            by_cases hA : P.length < OP.length
            · have CT := count_any (some ⟨q1, P.length, none⟩) (OP.length - P.length) (OP.drop P.length) k wc (by omega) hbd RC
              rw [hdl, hcn] at CT
              clear hcn hbd hdl RN RC
              go_wp2_with fail
              refine CT.mono ?_
              rintro e w' ⟨rfl, hw'⟩
              rw [hw']
              clear hw' w'
              go_wp2_with fail
              go_round
              case rel => exact ⟨k + 1, by omega, by go_num⟩
              case measure => simp [intOf]; omega
            · have HZ : Hid (OP.length - P.length = 0) := (by omega : OP.length - P.length = 0)
              have CT := fun a => count_any a (OP.length - P.length) (OP.drop P.length) k wc (by omega) hbd (RN a (List.eq_nil_of_length_eq_zero (by omega)))
              rw [hdl, hcn] at CT
              clear hcn hbd hdl RN RC
              go_wp2_with fail
              refine (CT _).mono ?_
              rintro e w' ⟨rfl, hw'⟩
              rw [hw']
              clear hw' w'
              go_wp2_with fail
              go_round
              case rel => exact ⟨k + 1, by omega, by go_num⟩
              case measure => simp [intOf]; omega
          · rw [if_pos ⟨rfl, hg⟩] at hcn
            have hne : (mx != gen) = true := by simp [hg]
            clear hg
            by_cases hA : P.length < OP.length
            · have CT := count_any (some ⟨q1, P.length, none⟩) (OP.length - P.length) (OP.drop P.length) k wc (by omega) hbd RC
              rw [hdl, hcn] at CT
              clear hcn hbd hdl RN RC
              go_wp2_with fail
              refine CT.mono ?_
              rintro e w' ⟨rfl, hw'⟩
              rw [hw']
              clear hw' w'
              go_wp2_with fail
              go_round
              case rel => exact ⟨k + 1, by omega, by go_num⟩
              case measure => simp [intOf]; omega
            · exfalso
              rw [List.eq_nil_of_length_eq_zero (show (OP.drop P.length).length = 0 by omega)] at hcn
              simp [countOf] at hcn
    · go_wp2_with fail
      go_ret
      exact ⟨rfl, B⟩
end Go.Proofs.Qxb6613719aDoor
