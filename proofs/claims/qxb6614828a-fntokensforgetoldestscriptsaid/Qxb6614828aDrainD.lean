import Derived.Test.Qxb6614828aDrainE
namespace Go.Proofs.Qxb6614828a
open Go.RowKit
set_option linter.unusedVariables false
set_option maxRecDepth 1000000 in
set_option maxHeartbeats 4000000 in
theorem law6_D1 (a : Option Addr) (n c g2 b t e0 sp nn : Nat) (keep : Int) (L : Nat → ByteArray × Int × Int) (K : List UInt8 → Option Nat) (Q : List Nat) (fg : Int) (w W : World) (hn : n ≤ 4096) (E : Ents w a L n) (B : Below w.heap.size w W)
    (hg : w.heap.size ≤ g2 ∧ g2 < b ∧ b < t) (H2 : Has W g2 3 (freedC Q n)) (hk0 : 0 ≤ keep) (hs1 : keep < (Q.length : Int) → (sp : Int) = (Q.length : Int) - keep) (hs2 : (Q.length : Int) ≤ keep → sp = 0) (hQ : ∀ i, i ∈ Q → i < n) (hQn : Q.length ≤ n) (T : Tok W b t e0 nn L n K Q fg)
    (u1 u6 u8 u9 u12 u13 u14 u15 u25 u26 u27 u28 u29 u30 u31 u32 u33 u34 u35 u36 u37 u38 u39 u40 u41 u42 u43 u44 u45 u46 u47 u48 u49 u50 u51 u52 u53 u54 u55 u56 u57 u58 u59 u60 u61 u62 u63 u64 u65 u66 u67 u68 u69 u70 u71 u72 u73 u74 u75 u76 u77 u78 u79 u80 u81 u82 u83 u84 u85 u86 u87 u88 u89 u90 u91 u92 u93 u94 u95 u96 u97 u98 u99 u100 u101 u102 u103 u104 u105 u106 u107 u108 u109 u110 u111 u112 u113 u114 u115 u116 u117 u118 u119 u120 : Value) :
    Code.wp Try.prog (seqTail 15 (Try.f6.body.getD .skip)) (bodyPost Try.prog Try.f6 (fun e w' => e = .returned (.bool true) ∧ Below w.heap.size w w'))
      ⟨(.slice a n c :: u1 :: .int .i64 keep :: undef :: undef :: undef :: u6 :: .int .i64 n :: u8 :: u9 :: .slice (some ⟨g2, 0, none⟩) Q.length n :: .pointer (some ⟨t, 0, none⟩) :: u12 :: u13 :: u14 :: u15 :: .int .i64 (Q.length : Int) :: .int .i64 (sp : Int) :: .int .i64 0 :: undef :: undef :: undef :: undef :: undef :: undef :: u25 :: u26 :: u27 :: u28 :: u29 :: u30 :: u31 :: u32 :: u33 :: u34 :: u35 :: u36 :: u37 :: u38 :: u39 :: u40 :: u41 :: u42 :: u43 :: u44 :: u45 :: u46 :: u47 :: u48 :: u49 :: u50 :: u51 :: u52 :: u53 :: u54 :: u55 :: u56 :: u57 :: u58 :: u59 :: u60 :: u61 :: u62 :: u63 :: u64 :: u65 :: u66 :: u67 :: u68 :: u69 :: u70 :: u71 :: u72 :: u73 :: u74 :: u75 :: u76 :: u77 :: u78 :: u79 :: u80 :: u81 :: u82 :: u83 :: u84 :: u85 :: u86 :: u87 :: u88 :: u89 :: u90 :: u91 :: u92 :: u93 :: u94 :: u95 :: u96 :: u97 :: u98 :: u99 :: u100 :: u101 :: u102 :: u103 :: u104 :: u105 :: u106 :: u107 :: u108 :: u109 :: u110 :: u111 :: u112 :: u113 :: u114 :: u115 :: u116 :: u117 :: u118 :: u119 :: u120 :: undef :: undef :: undef :: undef :: undef :: undef :: undef :: undef :: undef :: undef :: undef :: undef :: undef :: undef :: undef :: undef :: undef :: undef :: undef :: undef :: undef :: undef :: undef :: undef :: undef :: undef :: undef :: undef :: undef :: undef :: undef :: undef :: undef :: undef :: undef :: undef :: undef :: undef :: undef :: undef :: undef :: undef :: undef :: undef :: undef :: undef :: undef :: undef :: undef :: undef :: undef :: undef :: undef :: undef :: undef :: undef :: undef :: undef :: undef :: undef :: undef :: undef :: undef :: undef :: undef :: undef :: undef :: undef :: undef :: undef :: undef :: undef :: undef :: undef :: undef :: undef :: undef :: undef :: undef :: undef :: undef :: undef :: List.nil).toArray, []⟩ W := by
  conv => arg 2; whnf
  have hsp : sp ≤ Q.length := by
    rcases Int.lt_or_le keep (Q.length : Int) with h | h
    · have := hs1 h; omega
    · have := hs2 h; omega
  go_step
  go_step
  go_cut [18] from 121 to 152 (fun s wc => s = .int .i64 (sp : Int) ∧ ∃ (K' : List UInt8 → Option Nat) (fg' : Int), Tok wc b t e0 nn L n K' (Q.drop sp) fg' ∧ Below b W wc)
  case rest =>
    rename World => W2
    obtain ⟨rfl, K', fg', T', BW⟩ := hcut
    go_step
    exact law6_E a n c g2 b t e0 sp nn L K' Q fg' w W2 hn E (B.trans (BW.mono (by omega))) hg (H2.below BW hg.2.1) hsp hQ hQn T' _ _ _ _ _ _ _ _ _ _ _ _ _ _ _ _ _ _ _ _ _ _ _ _ _ _ _ _ _ _ _ _ _ _ _ _ _ _ _ _ _ _ _ _ _ _ _ _ _ _ _ _ _ _ _ _ _ _ _ _ _ _ _ _ _ _ _ _ _ _ _ _ _ _ _ _ _ _ _ _ _ _ _ _ _ _ _ _ _ _ _ _ _ _ _ _ _ _ _ _ _ _ _ _ _ _ _ _ _ _ _ _ _ _ _ _ _ _ _ _ _ _ _ _ _ _ _ _ _ _ _ _ _ _ _ _ _ _ _ _
  case first =>
    have HT : Hid (Tok W b t e0 nn L n K Q fg) := T
    have HS : Hid ((keep < (Q.length : Int) → (sp : Int) = (Q.length : Int) - keep) ∧ ((Q.length : Int) ≤ keep → sp = 0)) := ⟨hs1, hs2⟩
    have HQ : Hid (∀ i, i ∈ Q → i < n) := hQ
    clear T hs1 hs2 hQ
    go_wp2_with fail
    go_loopw [18, 19, 20, 21] (fun p r nm ok wr => ∃ (k : Nat) (K' : List UInt8 → Option Nat) (fg' : Int), k ≤ sp ∧ p = .int .i64 (k : Int) ∧ r = .int .i64 (k : Int) ∧ Tok wr b t e0 nn L n K' (Q.drop k) fg' ∧ Below b W wr) (fun p r nm ok _ => n + 1 - (intOf r).toNat)
    case atStart => exact ⟨0, K, fg, Nat.zero_le _, rfl, rfl, HT.out, Below.refl _ _⟩
    case round =>
      obtain ⟨k, K', fg', hk, rfl, rfl, T, BW⟩ := hrel
      have hkn : (k : Int) ≤ (n : Int) := by omega
      have dkn : decide ((k : Int) ≤ (n : Int)) = true := decide_eq_true hkn
      have hdl : (Q.drop k).length = Q.length - k := List.length_drop
      by_cases hks : k = sp
      · subst hks
        have CR := refuse_any wr b t e0 nn n L K' (Q.drop k) fg' keep T (by
          have := HS.out
          rw [hdl]
          rcases Int.lt_or_le keep (Q.length : Int) with h | h
          · have := this.1 h; omega
          · omega)
        have HT1 : Hid (Tok wr b t e0 nn L n K' (Q.drop k) fg') := T
        have HDL : Hid ((Q.drop k).length = Q.length - k) := hdl
        clear T hdl
        go_wp2_with fail
        refine CR.mono ?_
        rintro e w' ⟨rfl, hw'⟩
        rw [hw']
        clear hw' w' CR
        go_wp2_with fail
        go_meet
        case rel => exact ⟨rfl, K', fg', HT1.out, BW⟩
      · have hlt : k < sp := by omega
        have hsl : (sp : Int) = (Q.length : Int) - keep := by
          have := HS.out
          rcases Int.lt_or_le keep (Q.length : Int) with h | h
          · exact this.1 h
          · have := this.2 h; omega
        cases hq : Q.drop k with
        | nil => exfalso; rw [hq] at hdl; simp at hdl; omega
        | cons i Q2 =>
          rw [hq] at T hdl
          simp only [List.length_cons] at hdl
          have hqi : Q[k]? = some i := by
            have := congrArg (fun l => l[0]?) hq
            simpa using this
          have hi : i < n := HQ.out i (List.mem_of_getElem? hqi)
          have hq2 : Q.drop (k + 1) = Q2 := by
            rw [← List.drop_drop, hq]; rfl
          have CC := forgets_any wr b t e0 nn n L K' i Q2 fg' keep (by omega) T (by omega) (E.sz i hi) (by omega)
          have HQ2 : Hid (Q.drop (k + 1) = Q2) := hq2
          have hpf : decide ((sp : Int) ≤ (k : Int)) = false := decide_eq_false (by omega)
          have hpf' : decide (sp ≤ k) = false := decide_eq_false (by omega)
          have hpi : (k : Int) < (Q.length : Int) := by omega
          obtain ⟨x, hx⟩ : ∃ x, x = (L i).1 := ⟨_, rfl⟩
          rw [← hx] at CC
          have HX : Hid (x = (L i).1) := hx
          have HQI : Hid (Q[k]? = some i) := hqi
          have hli : (i : Int) < (n : Int) := by omega
          have seq : (x.toList == x.toList) = true := str_eq rfl
          have seq' : (x.toList != x.toList) = false := by simp
          have HDL : Hid (Q2.length + 1 = Q.length - k) := hdl
          clear T hq hqi hq2 hx hdl hsl
          go_wp2_with fail
          refine CC.mono ?_
          rintro e w1 ⟨rfl, T1, hz1, B1⟩
          clear CC
          have B2 : Below b W w1 := BW.trans B1
          have Hw := H2.below B2 hg.2.1
          have cf := Hw.cell k _ (freedC_at Q n k (by omega))
          rw [HQI.out] at cf
          simp only [Option.getD_some] at cf
          have Ew := E.below (B.trans (B2.mono (by omega))) E.lt
          obtain ⟨eb, eo, rfl, ec, _, _⟩ := Ew.look i hi
          rw [← HX.out] at ec
          have HT1 : Hid (Tok w1 b t e0 nn L n (del K' (kb x)) Q2 (max fg' (L i).2.1)) := T1
          clear Ew T1 Hw
          go_wp2_with fail
          go_roundw
          case rel => exact ⟨k + 1, _, _, by omega, by go_num, by go_num, by rw [HQ2.out]; exact HT1.out, B2⟩
          case measure => simp [intOf]; omega
end Go.Proofs.Qxb6614828a
