import Derived.Test.Qxb6614828aDrainP
namespace Go.Proofs.Qxb6614828a
open Go.RowKit
set_option linter.unusedVariables false
set_option maxRecDepth 1000000 in
set_option maxHeartbeats 4000000 in
theorem law6_E (a : Option Addr) (n c g2 b t e0 sp nn : Nat) (L : Nat → ByteArray × Int × Int) (K : List UInt8 → Option Nat) (Q : List Nat) (fg : Int) (w W : World) (hn : n ≤ 4096) (E : Ents w a L n) (B : Below w.heap.size w W)
    (hg : w.heap.size ≤ g2 ∧ g2 < b ∧ b < t) (H2 : Has W g2 3 (freedC Q n)) (hsp : sp ≤ Q.length) (hQ : ∀ i, i ∈ Q → i < n) (hQn : Q.length ≤ n) (T : Tok W b t e0 nn L n K (Q.drop sp) fg)
    (u1 u2 u6 u8 u9 u12 u13 u14 u15 u19 u20 u21 u25 u26 u27 u28 u29 u30 u31 u32 u33 u34 u35 u36 u37 u38 u39 u40 u41 u42 u43 u44 u45 u46 u47 u48 u49 u50 u51 u52 u53 u54 u55 u56 u57 u58 u59 u60 u61 u62 u63 u64 u65 u66 u67 u68 u69 u70 u71 u72 u73 u74 u75 u76 u77 u78 u79 u80 u81 u82 u83 u84 u85 u86 u87 u88 u89 u90 u91 u92 u93 u94 u95 u96 u97 u98 u99 u100 u101 u102 u103 u104 u105 u106 u107 u108 u109 u110 u111 u112 u113 u114 u115 u116 u117 u118 u119 u120 u121 u122 u123 u124 u125 u126 u127 u128 u129 u130 u131 u132 u133 u134 u135 u136 u137 u138 u139 u140 u141 u142 u143 u144 u145 u146 u147 u148 u149 u150 u151 u152 : Value) :
    Code.wp Try.prog (seqTail 16 (Try.f6.body.getD .skip)) (bodyPost Try.prog Try.f6 (fun e w' => e = .returned (.bool true) ∧ Below w.heap.size w w'))
      ⟨(.slice a n c :: u1 :: u2 :: undef :: undef :: undef :: u6 :: .int .i64 n :: u8 :: u9 :: .slice (some ⟨g2, 0, none⟩) Q.length n :: .pointer (some ⟨t, 0, none⟩) :: u12 :: u13 :: u14 :: u15 :: .int .i64 (Q.length : Int) :: .int .i64 (sp : Int) :: .int .i64 (sp : Int) :: u19 :: u20 :: u21 :: undef :: undef :: undef :: u25 :: u26 :: u27 :: u28 :: u29 :: u30 :: u31 :: u32 :: u33 :: u34 :: u35 :: u36 :: u37 :: u38 :: u39 :: u40 :: u41 :: u42 :: u43 :: u44 :: u45 :: u46 :: u47 :: u48 :: u49 :: u50 :: u51 :: u52 :: u53 :: u54 :: u55 :: u56 :: u57 :: u58 :: u59 :: u60 :: u61 :: u62 :: u63 :: u64 :: u65 :: u66 :: u67 :: u68 :: u69 :: u70 :: u71 :: u72 :: u73 :: u74 :: u75 :: u76 :: u77 :: u78 :: u79 :: u80 :: u81 :: u82 :: u83 :: u84 :: u85 :: u86 :: u87 :: u88 :: u89 :: u90 :: u91 :: u92 :: u93 :: u94 :: u95 :: u96 :: u97 :: u98 :: u99 :: u100 :: u101 :: u102 :: u103 :: u104 :: u105 :: u106 :: u107 :: u108 :: u109 :: u110 :: u111 :: u112 :: u113 :: u114 :: u115 :: u116 :: u117 :: u118 :: u119 :: u120 :: u121 :: u122 :: u123 :: u124 :: u125 :: u126 :: u127 :: u128 :: u129 :: u130 :: u131 :: u132 :: u133 :: u134 :: u135 :: u136 :: u137 :: u138 :: u139 :: u140 :: u141 :: u142 :: u143 :: u144 :: u145 :: u146 :: u147 :: u148 :: u149 :: u150 :: u151 :: u152 :: undef :: undef :: undef :: undef :: undef :: undef :: undef :: undef :: undef :: undef :: undef :: undef :: undef :: undef :: undef :: undef :: undef :: undef :: undef :: undef :: undef :: undef :: undef :: undef :: undef :: undef :: undef :: undef :: undef :: undef :: undef :: undef :: undef :: undef :: undef :: undef :: undef :: undef :: undef :: undef :: undef :: undef :: undef :: undef :: undef :: undef :: undef :: undef :: undef :: undef :: List.nil).toArray, []⟩ W := by
  conv => arg 2; whnf
  have hd : (Q.drop sp).length = Q.length - sp := List.length_drop
  have CF := frees_any W b t e0 nn n L K (Q.drop sp) fg T
  rw [hd, show ((Q.length - sp : Nat) : Int) = (Q.length : Int) - (sp : Int) by omega] at CF
  have HT : Hid (Tok W b t e0 nn L n K (Q.drop sp) fg) := T
  have HD : Hid ((Q.drop sp).length = Q.length - sp) := hd
  have HQ : Hid (∀ i, i ∈ Q → i < n) := hQ
  clear T hd hQ
  have r1 : ((sp : Int) != (sp : Int)) = false := by simp
  have r2 : ((Q.length : Int) - (sp : Int) != (Q.length : Int) - (sp : Int)) = false := by simp
  go_wp2_with fail
  refine CF.mono ?_
  rintro e w' ⟨rfl, hw'⟩
  rw [hw']
  clear hw' w' CF
  go_wp2_with fail
  go_loopw [18, 22, 23, 24] (fun p r nm ok wr => ∃ (k : Nat) (K' : List UInt8 → Option Nat) (fg' : Int), k + sp ≤ Q.length ∧ p = .int .i64 ((sp : Int) + (k : Int)) ∧ r = .int .i64 k ∧ Tok wr b t e0 nn L n K' (Q.drop (sp + k)) fg' ∧ Below b W wr) (fun p r nm ok _ => n + 1 - (intOf r).toNat)
  case atStart => exact ⟨0, K, fg, by omega, by simp, rfl, HT.out, Below.refl _ _⟩
  case round =>
    obtain ⟨k, K', fg', hk, rfl, rfl, T, BW⟩ := hrel
    have hkn : (k : Int) ≤ (n : Int) := by omega
    have dkn : decide ((k : Int) ≤ (n : Int)) = true := decide_eq_true hkn
    cases hq : Q.drop (sp + k) with
    | nil =>
      rw [hq] at T
      have hl : Q.length = sp + k := by have := congrArg List.length hq; simp at this; omega
      have CR := refuse_any wr b t e0 nn n L K' [] fg' 0 T (by simp)
      have CF := frees_any wr b t e0 nn n L K' [] fg' T
      simp only [List.length_nil] at CF
      have r3 : ((sp : Int) + (k : Int) == (Q.length : Int)) = true := by rw [hl]; simp
      clear T hq
      go_wp2_with fail
      refine CR.mono ?_
      rintro e w' ⟨rfl, hw'⟩
      rw [hw']
      clear hw' w' CR
      go_wp2_with fail
      refine CF.mono ?_
      rintro e w' ⟨rfl, hw'⟩
      rw [hw']
      clear hw' w' CF
      go_wp2_with fail
      go_ret
      exact ⟨rfl, B.trans (BW.mono (by omega))⟩
    | cons i Q2 =>
      rw [hq] at T
      have hlen : k + sp < Q.length := by
        have := congrArg List.length hq
        simp at this
        omega
      have hqi : Q[sp + k]? = some i := by
        have := congrArg (fun l => l[0]?) hq
        simpa using this
      have hi : i < n := HQ.out i (List.mem_of_getElem? hqi)
      have hq2 : Q.drop (sp + (k + 1)) = Q2 := by
        rw [show sp + (k + 1) = (sp + k) + 1 by omega, ← List.drop_drop, hq]; rfl
      have CC := forgets_any wr b t e0 nn n L K' i Q2 fg' 0 (by omega) T (by omega) (E.sz i hi) (by omega)
      have HQ2 : Hid (Q.drop (sp + (k + 1)) = Q2) := hq2
      have hpf : decide ((Q.length : Int) ≤ (sp : Int) + (k : Int)) = false := decide_eq_false (by omega)
      have hpi : (sp : Int) + (k : Int) < (Q.length : Int) := by omega
      obtain ⟨x, hx⟩ : ∃ x, x = (L i).1 := ⟨_, rfl⟩
      rw [← hx] at CC
      have HX : Hid (x = (L i).1) := hx
      have HQI : Hid (Q[sp + k]? = some i) := hqi
      have HQL : Hid (k + sp < Q.length) := hlen
      have hli : (i : Int) < (n : Int) := by omega
      have seq : (x.toList == x.toList) = true := str_eq rfl
      have seq' : (x.toList != x.toList) = false := by simp
      clear T hq hqi hq2 hx hlen
      go_wp2_with fail
      refine CC.mono ?_
      rintro e w1 ⟨rfl, T1, hz1, B1⟩
      clear CC
      have B2 : Below b W w1 := BW.trans B1
      have Hw := H2.below B2 hg.2.1
      have cf := Hw.cell (sp + k) _ (freedC_at Q n (sp + k) (by have := HQL.out; omega))
      rw [HQI.out] at cf
      simp only [Option.getD_some] at cf
      have Ew := E.below (B.trans (B2.mono (by omega))) E.lt
      obtain ⟨eb, eo, rfl, ec, _, _⟩ := Ew.look i hi
      rw [← HX.out] at ec
      have HT1 : Hid (Tok w1 b t e0 nn L n (del K' (kb x)) Q2 (max fg' (L i).2.1)) := T1
      obtain ⟨pp, hpp⟩ : ∃ pp : Nat, pp = sp + k := ⟨_, rfl⟩
      rw [← hpp] at cf
      have HPP : Hid (pp = sp + k) := hpp
      rw [show (sp : Int) + (k : Int) = (pp : Int) by omega] at hpf hpi ⊢
      clear Ew T1 Hw hpp
      go_wp2_with fail
      go_roundw
      case rel =>
        have := HPP.out
        have := HQL.out
        refine ⟨k + 1, _, _, by omega, ?_, by go_num, by rw [HQ2.out]; exact HT1.out, B2⟩
        rw [show (pp : Int) + 1 = (sp : Int) + ((k + 1 : Nat) : Int) by omega]
      case measure =>
        have := HQL.out
        simp [intOf]; omega
end Go.Proofs.Qxb6614828a
