import Derived.Test.Qxb6614828aScriptP
namespace Go.Proofs.Qxb6614828a
open Go.RowKit
set_option linter.unusedVariables false
set_option maxRecDepth 1000000 in
set_option maxHeartbeats 4000000 in
theorem law5_E (a : Option Addr) (n c g0 g1 g2 b t e0 nn : Nat) (L : Nat → ByteArray × Int × Int) (A : List Nat) (h : Nat) (K : List UInt8 → Option Nat) (fg : Int) (w W : World) (hn : n ≤ 4096) (E : Ents w a L n)
    (I : Inv5 w W g0 g1 g2 b t e0 nn n L A h K fg)
    (u1 u2 u6 u10 u11 u14 u15 u16 u17 u18 u19 u20 u21 u22 u26 u27 u28 u29 u30 u31 u32 u33 u34 u35 u36 u37 u38 u39 u40 u41 u42 u43 u44 u45 u46 u47 u48 u49 u50 u51 u52 u53 u54 u55 u56 u57 u58 u59 u60 u61 u62 u63 u64 u65 u66 u67 u68 u69 u70 u71 u72 u73 u74 u75 u76 u77 u78 u79 u80 u81 u82 u83 u84 u85 u86 u87 u88 u89 u90 u91 u92 u93 u94 u95 u96 u97 u98 u99 u100 u101 u102 u103 u104 u105 u106 u107 u108 u109 u110 u111 u112 u113 u114 u115 u116 u117 u118 u119 u120 u121 u122 u123 u124 u125 u126 u127 u128 u129 u130 u131 u132 u133 u134 u135 u136 u137 u138 u139 u140 u141 u142 u143 u144 u145 u146 u147 u148 u149 u150 u151 u152 u153 u154 u155 u156 u157 u158 u159 u160 u161 u162 u163 u164 u165 u166 : Value) :
    Code.wp Try.prog (seqTail 13 (Try.f5.body.getD .skip)) (bodyPost Try.prog Try.f5 (fun e w' => e = .returned (.bool true) ∧ Below w.heap.size w w'))
      ⟨(.slice a n c :: u1 :: u2 :: undef :: undef :: undef :: u6 :: .int .i64 n :: .slice (some ⟨g0, 0, none⟩) n n :: .slice (some ⟨g1, 0, none⟩) n n :: u10 :: u11 :: .int .u64 fg :: .pointer (some ⟨t, 0, none⟩) :: u14 :: u15 :: u16 :: u17 :: u18 :: u19 :: u20 :: u21 :: u22 :: undef :: undef :: undef :: u26 :: u27 :: u28 :: u29 :: u30 :: u31 :: u32 :: u33 :: u34 :: u35 :: u36 :: u37 :: u38 :: u39 :: u40 :: u41 :: u42 :: u43 :: u44 :: u45 :: u46 :: u47 :: u48 :: u49 :: u50 :: u51 :: u52 :: u53 :: u54 :: u55 :: u56 :: u57 :: u58 :: u59 :: u60 :: u61 :: u62 :: u63 :: u64 :: u65 :: u66 :: u67 :: u68 :: u69 :: u70 :: u71 :: u72 :: u73 :: u74 :: u75 :: u76 :: u77 :: u78 :: u79 :: u80 :: u81 :: u82 :: u83 :: u84 :: u85 :: u86 :: u87 :: u88 :: u89 :: u90 :: u91 :: u92 :: u93 :: u94 :: u95 :: u96 :: u97 :: u98 :: u99 :: u100 :: u101 :: u102 :: u103 :: u104 :: u105 :: u106 :: u107 :: u108 :: u109 :: u110 :: u111 :: u112 :: u113 :: u114 :: u115 :: u116 :: u117 :: u118 :: u119 :: u120 :: u121 :: u122 :: u123 :: u124 :: u125 :: u126 :: u127 :: u128 :: u129 :: u130 :: u131 :: u132 :: u133 :: u134 :: u135 :: u136 :: u137 :: u138 :: u139 :: u140 :: u141 :: u142 :: u143 :: u144 :: u145 :: u146 :: u147 :: u148 :: u149 :: u150 :: u151 :: u152 :: u153 :: u154 :: u155 :: u156 :: u157 :: u158 :: u159 :: u160 :: u161 :: u162 :: u163 :: u164 :: u165 :: u166 :: undef :: undef :: undef :: undef :: undef :: undef :: undef :: undef :: undef :: undef :: undef :: undef :: undef :: undef :: undef :: undef :: undef :: undef :: undef :: undef :: undef :: undef :: undef :: undef :: undef :: undef :: undef :: undef :: undef :: undef :: undef :: undef :: undef :: undef :: undef :: undef :: undef :: undef :: undef :: undef :: undef :: undef :: undef :: undef :: undef :: undef :: List.nil).toArray, []⟩ W := by
  conv => arg 2; whnf
  have CG := forgotten_any W b t e0 nn n L K (A.drop h) fg I.T
  have HI : Hid (Inv5 w W g0 g1 g2 b t e0 nn n L A h K fg) := I
  clear I
  have r1 : (fg != fg) = false := by simp
  go_wp2_with fail
  refine CG.mono ?_
  rintro e w' ⟨rfl, hw'⟩
  rw [hw']
  clear hw' w' CG
  go_wp2_with fail
  go_loop [23, 24, 25] (fun i v ok => ∃ k : Nat, k ≤ n ∧ i = .int .i64 (k : Int)) (fun i v ok => n - (intOf i).toNat)
  case atStart => exact ⟨0, Nat.zero_le _, rfl⟩
  case round =>
    obtain ⟨k, hk, rfl⟩ := hrel
    by_cases hlt : k < n
    · have hkl : (k : Int) < (n : Int) := by omega
      have I := HI.out
      have cc := I.h0.cell k _ (canonC_at L n n k hlt)
      rw [if_pos hlt] at cc
      by_cases hck : canonTo L k n = k
      · rw [hck] at cc
        have d0 : ((k : Int) != (k : Int)) = false := by simp
        have cs := I.h1.cell k _ (stateC_at A h n k hlt)
        have KK := I.KK k hlt
        rw [hck] at KK
        have CV := version_any W b t e0 nn n L K (A.drop h) fg (L k).1 (E.sz k hlt) I.T
        obtain ⟨eb, eo, rfl, e1, _, e3⟩ := (E.below I.B E.lt).look k hlt
        obtain ⟨x, hx⟩ : ∃ x, x = (L k).1 := ⟨_, rfl⟩
        obtain ⟨ve, hve⟩ : ∃ ve, ve = (L k).2.2 := ⟨_, rfl⟩
        rw [← hx] at e1
        rw [← hve] at e3
        by_cases hm : k ∈ A.take h
        · rw [if_pos hm] at KK
          rw [KK] at CV
          simp only [stOf, if_pos hm] at cs
          rw [← hx] at CV
          clear I KK hm hx hve hck
          go_wp2_with fail
          refine CV.mono ?_
          rintro e w' ⟨rfl, hw'⟩
          rw [hw']
          clear hw' w' CV
          go_wp2_with fail
          go_round
          case rel => exact ⟨k + 1, by omega, by go_num⟩
          case measure => simp [intOf]; omega
        · rw [if_neg hm] at KK
          rw [KK] at CV
          obtain ⟨sv, hsv, hs2⟩ : ∃ sv : Int, sv = stOf A h k ∧ (sv == 2) = false := ⟨_, rfl, by unfold stOf; rw [if_neg hm]; split <;> rfl⟩
          rw [← hsv] at cs
          dsimp only at CV
          rw [← hx, ← hve] at CV
          have r2 : (ve != ve) = false := by simp
          clear I KK hm hx hve hck hsv
          go_wp2_with fail
          refine CV.mono ?_
          rintro e w' ⟨rfl, hw'⟩
          rw [hw']
          clear hw' w' CV
          go_wp2_with fail
          go_round
          case rel => exact ⟨k + 1, by omega, by go_num⟩
          case measure => simp [intOf]; omega
      · have d0 : (((canonTo L k n : Nat) : Int) != (k : Int)) = true := by
          rw [bne_iff_ne]; intro e; exact hck (by omega)
        obtain ⟨ck, hck2⟩ : ∃ ck, ck = canonTo L k n := ⟨_, rfl⟩
        rw [← hck2] at cc d0
        clear I hck hck2
        go_wp2_with fail
        go_round
        case rel => exact ⟨k + 1, by omega, by go_num⟩
        case measure => simp [intOf]; omega
    · go_wp2_with fail
      go_ret
      exact ⟨rfl, HI.out.B⟩
end Go.Proofs.Qxb6614828a
