import Derived.Test.Qxb6613719aDoorPairs
import Derived.Test.Qxb6613719aDoorBack
namespace Go.Proofs.Qxb6613719aDoor
open Go.RowKit
set_option linter.unusedVariables false
/-- The same as 'In', at another world that keeps what lies below h. -/
theorem In.below {w w' : World} {ps tb g h : Nat} {ma : Option Addr} {mc : Nat} {gen start : Int} {M F C J : List Int} {fa ca ja : Option Addr} {fc cc jc : Nat} (I : In w ps tb g h ma mc gen start M F C J fa ca ja fc cc jc)
    (B : Below h w w') : In w' ps tb g h ma mc gen start M F C J fa ca ja fc cc jc :=
  ⟨I.S.kept (B.block ps I.lp.1), I.T.kept (B.block tb I.lt.1), I.ma, fun h0 => (I.mks h0).below B (I.lg h0), I.rf.kept fun q hq _ => B.block q (I.lf q hq).1, I.rc.kept fun q hq _ => B.block q (I.lc q hq).1, I.rj.kept fun q hq _ => B.block q (I.lj q hq).1,
    I.bf, I.bc, I.lf, I.lc, I.lj, I.lg, I.lp, I.lt, I.lM⟩
theorem Keep.below {B g : Nat} {a b c : World} (h1 : Below B a b) (h : Keep B g b c) : Keep B g a c := (Keep.of_below h1).trans h

theorem addsOf_le (M : List Int) (gen y start : Int) (bc bf : Bool) : (addsOf M gen y start bc bf).length ≤ 2 := by
  have h1 := standA_le M gen (y - 1)
  have h2 := standA_le (if bc = true then M.set (y - 1).toNat gen else M) gen start
  cases bc <;> cases bf <;> simp [addsOf] at * <;> omega

def rowTo (kd : IntKind) (l : List Int) (k : Nat) : List Value := (l.take k).map (Value.int kd) ++ List.replicate (l.length - k) (.int kd 0)
theorem rowTo_zero (kd : IntKind) (l : List Int) : rowTo kd l 0 = List.replicate l.length (.int kd 0) := by simp [rowTo]
theorem rowTo_all (kd : IntKind) (l : List Int) : rowTo kd l l.length = l.map (Value.int kd) := by simp [rowTo]
theorem rowTo_at (kd : IntKind) (l : List Int) (k : Nat) (h : k < l.length) : (rowTo kd l k)[k]? = some (.int kd 0) := by
  unfold rowTo
  rw [List.getElem?_append_right (by simp; omega), List.getElem?_replicate, if_pos (by simp; omega)]
theorem rowTo_set (kd : IntKind) (l : List Int) (k : Nat) (h : k < l.length) : (rowTo kd l k).set k (.int kd (l[k]?.getD 0)) = rowTo kd l (k + 1) := by
  unfold rowTo
  have hl : ((l.take k).map (Value.int kd)).length = k := by simp; omega
  rw [List.set_append_right _ _ (by omega), hl, Nat.sub_self, List.take_succ_eq_append_getElem h, List.map_append, List.append_assoc, List.getElem?_eq_getElem h]
  congr 1
  rw [show l.length - k = (l.length - (k + 1)) + 1 from by omega, List.replicate_succ]
  simp

set_option maxRecDepth 100000 in
set_option maxHeartbeats 2000000 in
theorem zzStepBack_any (ps tb g : Nat) (ma : Option Addr) (mc : Nat) (pa ea : Option Addr) (pc ec : Nat) (y : Nat) (en gen start : Int) (P E M F C J : List Int) (fa ca ja : Option Addr) (fc cc jc : Nat) (w : World)
    (I : In w ps tb g w.heap.size ma mc gen start M F C J fa ca ja fc cc jc) (hPE : P.length = E.length) (hn : P.length ≤ 20000)
    (rP : Row w .i32 pa P) (rE : Row w .i64 ea E) (hy : y < 16384)
    (hJ : y < J.length) (hj : J[y]?.getD 0 < 0) (hF : y / 64 < F.length) (hC : 0 < y → (y - 1) / 64 < C.length)
    (hcm : chainB C y = true → (y : Int) - 1 < M.length) (hfm : bitAt F y = true → 0 ≤ start ∧ start < M.length) :
    Calls Tryd.prog 10 #[.pointer (some ⟨ps, 0, none⟩), .pointer (some ⟨tb, 0, none⟩), .slice pa P.length pc, .slice ea P.length ec, .int .i32 y, .int .i64 en] w fun e w' =>
      ∃ q1 q2 n', n' = P.length + (addsOf M gen y start (chainB C y) (bitAt F y)).length ∧ e = .returned (.tuple #[.slice (some ⟨q1, 0, none⟩) n' n', .slice (some ⟨q2, 0, none⟩) n' n']) ∧ w.heap.size ≤ q1 ∧ w.heap.size ≤ q2 ∧
        Has w' q1 21 ((P ++ addsOf M gen y start (chainB C y) (bitAt F y)).map (Value.int .i32)) ∧ Has w' q2 3 ((E ++ List.replicate (addsOf M gen y start (chainB C y) (bitAt F y)).length en).map (Value.int .i64)) ∧
        (0 < M.length → Has w' g 3 ((marksOf M gen y start (chainB C y) (bitAt F y)).map (Value.int .i64))) ∧ Keep w.heap.size g w w' := by
  obtain ⟨w1, r1, o1, s1, b1⟩ := make_th w P.length (by omega)
  obtain ⟨Z, hZ⟩ : ∃ Z, Z = (madeCells #[.int .i32 0, .int .i64 0] (P.length * 2)).toList := ⟨_, rfl⟩
  rw [← hZ] at o1
  have HZL : Hid (Z.length = P.length * 2) := o1.len
  have HPE : Hid (P.length = E.length) := hPE
  have HJ : Hid (y < J.length ∧ J[y]?.getD 0 < 0 ∧ y / 64 < F.length ∧ (0 < y → (y - 1) / 64 < C.length) ∧ (chainB C y = true → (y : Int) - 1 < M.length) ∧ (bitAt F y = true → 0 ≤ start ∧ start < M.length)) := ⟨hJ, hj, hF, hC, hcm, hfm⟩
  clear hZ hPE hJ hj hF hC hcm hfm
  go_enter Tryd.func10, Tryd.ntmps10
  go_wp2_with fail
  go_loopw [25] (fun i wr => ∃ k : Nat, k ≤ P.length ∧ i = .int .i64 k ∧ Own wr w.heap.size P.length P.length (fill P E Z k) ∧ Below w.heap.size w wr) (fun i _ => P.length - (intOf i).toNat)
  case atStart => exact ⟨0, Nat.zero_le _, rfl, by rw [fill_zero]; exact o1, b1⟩
  case round =>
    clear o1 b1 r1 s1
    obtain ⟨k, hk, rfl, O, B⟩ := hrel
    by_cases hlt : k < P.length
    · obtain ⟨qp, hqp, cp⟩ := rP.look k _ (getD_some hlt)
      obtain ⟨qe, hqe, ce⟩ := rE.look k _ (getD_some (by have := HPE.out; omega))
      obtain ⟨pv, hpv⟩ : ∃ pv, pv = P[k]?.getD 0 := ⟨_, rfl⟩
      obtain ⟨ev, hev⟩ : ∃ ev, ev = E[k]?.getD 0 := ⟨_, rfl⟩
      have cp1 : wr.cell? ⟨qp, k, none⟩ = some (.int .i32 pv) := by rw [hpv]; exact (B.cell (p := ⟨qp, k, none⟩) (block_lt_of_cell cp)).trans cp
      have ce1 : wr.cell? ⟨qe, k, none⟩ = some (.int .i64 ev) := by rw [hev]; exact (B.cell (p := ⟨qe, k, none⟩) (block_lt_of_cell ce)).trans ce
      have HPV : Hid (pv = P[k]?.getD 0) := hpv
      have HEV : Hid (ev = E[k]?.getD 0) := hev
      clear hpv hev cp ce
      have hli : (k : Int) < (P.length : Int) := by omega
      obtain ⟨v0, c0⟩ : ∃ v0, wr.cell? ⟨w.heap.size, k * 2, none⟩ = some v0 := ⟨_, O.cell (k * 2) _ (List.getElem?_eq_getElem (by have := O.len; omega))⟩
      obtain ⟨v1, c1⟩ : ∃ v1, wr.cell? ⟨w.heap.size, k * 2 + 1, none⟩ = some v1 := ⟨_, O.cell (k * 2 + 1) _ (List.getElem?_eq_getElem (by have := O.len; omega))⟩
      have f0 := O.free (k * 2)
      have f1 := O.free (k * 2 + 1)
      subst hqp
      subst hqe
      go_wp2_with fail
      go_region
      go_wp2_with fail
      go_roundw
      case rel =>
        refine ⟨k + 1, by omega, by go_num, ?_, ?_⟩
        · rw [← fill_set P E Z k hlt HPE.out HZL.out, ← HPV.out, ← HEV.out]
          exact ((O.kept (w' := wr.drew) rfl).store (k * 2) (by omega) _).store (k * 2 + 1) (by omega) _
        · exact (B.drew.setCell (Nat.le_refl _) _).setCell (Nat.le_refl _) _
      case measure => simp [intOf]; omega
    · obtain rfl : k = P.length := by omega
      rw [fill_all P E Z HPE.out HZL.out] at O
      obtain ⟨hJ, hj, hF, hC, hcm, hfm⟩ := HJ.out
      have HB := stepBack_any ps tb g w.heap.size P.length P.length ma mc y en gen start M F C J _ fa ca ja fc cc jc wr (I.below B) O hy (by omega) hJ hj hF hC hcm hfm
      clear hJ hj hF hC hcm hfm
      go_wp2_with fail
      refine HB.mono ?_
      rintro e W1 ⟨h1, n1, cap1, rfl, hn1, O1, hM1, K1⟩
      obtain ⟨A, hA⟩ : ∃ A, A = addsOf M gen y start (chainB C y) (bitAt F y) := ⟨_, rfl⟩
      have hAl : A.length ≤ 2 := by rw [hA]; exact addsOf_le _ _ _ _ _ _
      rw [← hA] at hn1 O1
      obtain ⟨PP, hPP⟩ : ∃ PP, PP = P ++ A := ⟨_, rfl⟩
      obtain ⟨EE, hEE⟩ : ∃ EE, EE = E ++ List.replicate A.length en := ⟨_, rfl⟩
      have hPl : PP.length = n1 := by rw [hPP, List.length_append]; exact hn1.symm
      have hEl : EE.length = n1 := by rw [hEE, List.length_append, List.length_replicate, ← HPE.out]; exact hn1.symm
      have O2 : Own W1 h1 n1 cap1 (pairs PP EE) := by rw [hPP, hEE, pairs_append _ _ _ _ HPE.out, pairs_thr]; exact O1
      obtain ⟨w6, r6, h6, s6, b6⟩ := make_has (P := Tryd.prog) W1 24 21 (.int .i32 0) 4 n1 Tryd.underlying24 Tryd.info21 rfl (by omega) (by omega)
      obtain ⟨w7, r7, h7, s7, b7⟩ := make_has (P := Tryd.prog) w6 22 3 (.int .i64 0) 8 n1 Tryd.underlying22 Tryd.info3 rfl (by omega) (by omega)
      rw [s6] at r7 h7 s7 b7
      have hb17 : Below W1.heap.size W1 w7 := b6.trans (b7.mono (by omega))
      have h67 : Has w7 W1.heap.size 21 (List.replicate n1 (.int .i32 0)) := h6.below b7 (by omega)
      have hn1b : n1 ≤ 20002 := by omega
      have H : Hid (n1 = P.length + A.length ∧ PP = P ++ A ∧ EE = E ++ List.replicate A.length en ∧ PP.length = n1 ∧ EE.length = n1 ∧ A = addsOf M gen y start (chainB C y) (bitAt F y)) := ⟨hn1, hPP, hEE, hPl, hEl, hA⟩
      have hr1 := rowTo_zero .i32 PP
      have hr2 := rowTo_zero .i64 EE
      rw [hPl] at hr1
      rw [hEl] at hr2
      rw [← hr1] at h67
      rw [← hr2] at h7
      have hszW : w.heap.size ≤ W1.heap.size := Nat.le_trans B.size K1.size
      clear hn1 hPP hEE hPl hEl hA hr1 hr2 O1 b6 b7 h6 s6 s7 HB hAl
      go_wp2_with fail
      go_loopw [56] (fun i wr => ∃ k : Nat, k ≤ n1 ∧ i = .int .i64 k ∧ Has wr W1.heap.size 21 (rowTo .i32 PP k) ∧ Has wr (W1.heap.size + 1) 3 (rowTo .i64 EE k) ∧ Below W1.heap.size W1 wr) (fun i _ => n1 - (intOf i).toNat)
      case atStart => exact ⟨0, Nat.zero_le _, rfl, h67, h7, hb17⟩
      case round =>
        clear h67 h7 hb17 r6 r7
        obtain ⟨k2, hk2, rfl, R1, R2, B2⟩ := hrel
        have O3 : Own wr h1 n1 cap1 (pairs PP EE) := O2.kept (B2.block h1 O2.lt)
        by_cases hlt2 : k2 < n1
        · obtain ⟨pv, hpv⟩ : ∃ pv, pv = PP[k2]?.getD 0 := ⟨_, rfl⟩
          obtain ⟨ev, hev⟩ : ∃ ev, ev = EE[k2]?.getD 0 := ⟨_, rfl⟩
          have hpg := pairs_get PP EE k2 (by rw [H.out.2.2.2.1, H.out.2.2.2.2.1]) (by rw [H.out.2.2.2.1]; exact hlt2)
          rw [← hpv, ← hev] at hpg
          have c0 := O3.cell (k2 * 2) _ hpg.1
          have c1 := O3.cell (k2 * 2 + 1) _ hpg.2
          have hP1 : k2 < PP.length := by rw [H.out.2.2.2.1]; exact hlt2
          have hE1 : k2 < EE.length := by rw [H.out.2.2.2.2.1]; exact hlt2
          have d0 := R1.cell k2 _ (rowTo_at .i32 PP k2 hP1)
          have d1 := R2.cell k2 _ (rowTo_at .i64 EE k2 hE1)
          have f0 := R1.free k2
          have f1 := R2.free k2
          have R1' := ((R1.store k2 (.int .i32 pv)).eqL (hpv ▸ rowTo_set .i32 PP k2 hP1)).other ⟨W1.heap.size + 1, k2, none⟩ (.int .i64 ev) (by simp)
          have R2' := ((R2.other ⟨W1.heap.size, k2, none⟩ (.int .i32 pv) (by simp)).store k2 (.int .i64 ev)).eqL (hev ▸ rowTo_set .i64 EE k2 hE1)
          have B2' : Below W1.heap.size W1 ((wr.setCell ⟨W1.heap.size, k2, none⟩ (.int .i32 pv)).setCell ⟨W1.heap.size + 1, k2, none⟩ (.int .i64 ev)) := (B2.setCell (Nat.le_refl _) _).setCell (by simp) _
          have hli2 : (k2 : Int) < (n1 : Int) := by omega
          have hne1 : ¬ h1 = W1.heap.size := by have := O2.lt; omega
          have hne2 : ¬ h1 = W1.heap.size + 1 := by have := O2.lt; omega
          clear hpg hpv hev hP1 hE1 O3
          go_wp2_with fail
          go_roundw
          case rel => exact ⟨k2 + 1, by omega, by go_num, R1', R2', B2'⟩
          case measure => simp [intOf]; omega
        · obtain rfl : k2 = n1 := by omega
          obtain ⟨e1, e2, e3, e4, e5, e6⟩ := H.out
          have R1' : Has wr W1.heap.size 21 (PP.map (Value.int .i32)) := by rw [← rowTo_all, e4]; exact R1
          have R2' : Has wr (W1.heap.size + 1) 3 (EE.map (Value.int .i64)) := by rw [← rowTo_all, e5]; exact R2
          rw [e2] at R1'
          rw [e3] at R2'
          have hK := (Keep.below B K1).trans (Keep.of_below (g := g) (B2.mono hszW))
          have hM2 : 0 < M.length → Has wr g 3 ((marksOf M gen y start (chainB C y) (bitAt F y)).map (Value.int .i64)) := fun h0 => (hM1 h0).below B2 (by have := I.lg h0; omega)
          clear e2 e3 e4 e5
          go_wp2_with fail
          go_ret2
          rw [e6] at R1' R2' e1
          exact ⟨W1.heap.size, W1.heap.size + 1, _, e1, rfl, hszW, by omega, R1', R2', hM2, hK⟩
end Go.Proofs.Qxb6613719aDoor
