import Derived.Test.Qxb6613719aDoorSt
import Derived.Deep.DeepCutAuto
import Derived.Deep.RegionHeld3
import Derived.Deep.DrawnRows
namespace Go.Proofs.Qxb6613719aDoor
open Go.RowKit
set_option linter.unusedVariables false
attribute [local go_sem ↓] Go.wp_at_zero Go.wp_at_succ

/-- What 'stepBack' is called with. -/
structure In (w : World) (ps tb g h : Nat) (ma : Option Addr) (mc : Nat) (gen start : Int) (M F C J : List Int) (fa ca ja : Option Addr) (fc cc jc : Nat) : Prop where
  S : Search w ps (.slice ma M.length mc) gen
  T : Table w tb start (.slice fa F.length fc) (.slice ca C.length cc) (.slice ja J.length jc)
  ma : 0 < M.length → ma = some ⟨g, 0, none⟩
  mks : 0 < M.length → Has w g 3 (M.map (Value.int .i64))
  rf : Row w .u64 fa F
  rc : Row w .u64 ca C
  rj : Row w .i32 ja J
  bf : ∀ j : Nat, 0 ≤ F[j]?.getD 0 ∧ F[j]?.getD 0 ≤ 18446744073709551615
  bc : ∀ j : Nat, 0 ≤ C[j]?.getD 0 ∧ C[j]?.getD 0 ≤ 18446744073709551615
  lf : ∀ q, fa = some ⟨q, 0, none⟩ → q < h ∧ q ≠ g
  lc : ∀ q, ca = some ⟨q, 0, none⟩ → q < h ∧ q ≠ g
  lj : ∀ q, ja = some ⟨q, 0, none⟩ → q < h ∧ q ≠ g
  lg : 0 < M.length → g < h
  lp : ps < h ∧ ps ≠ g
  lt : tb < h ∧ tb ≠ g
  lM : M.length ≤ 16384

theorem In.cellJ {w : World} {ps tb g h : Nat} {ma : Option Addr} {mc : Nat} {gen start : Int} {M F C J : List Int} {fa ca ja : Option Addr} {fc cc jc : Nat} (I : In w ps tb g h ma mc gen start M F C J fa ca ja fc cc jc)
   (j : Nat) (hj : j < J.length) : ∃ q, ja = some ⟨q, 0, none⟩ ∧ w.cell? ⟨q, j, none⟩ = some (.int .i32 (J[j]?.getD 0)) := I.rj.look j _ (getD_some hj)

theorem boxes_St {w : World} {ps g h n cap : Nat} {y en : Int} {xs : List Value} {M : List Int} (W : World)
    (hW : W = ((w.alloc (.cells #[.pointer (some ⟨ps, 0, none⟩)] 28)).alloc (.cells #[.slice (some ⟨h, 0, none⟩) n cap] 51)).alloc (.cells #[.int .i32 y, .int .i64 en] 60))
    (hO : Own w h n cap xs) (hm : 0 < M.length → Has w g 3 (M.map (Value.int .i64))) (hg : 0 < M.length → g < h) : St w W h w.heap.size ps g h n cap y en xs M := by
  have hl := hO.lt
  have hb : Below w.heap.size w W := by
    subst hW
    exact (((Below.refl _ _).alloc (Nat.le_refl _) _).alloc (by simp) _).alloc (by simp; omega) _
  have e0 : W.heap[w.heap.size]? = some (.cells #[.pointer (some ⟨ps, 0, none⟩)] 28 (0, 0)) := by
    subst hW; rw [Below.heap_alloc _ _ _ (by simp; omega), Below.heap_alloc _ _ _ (by simp), heap_alloc_new]
  have e1 : W.heap[w.heap.size + 1]? = some (.cells #[.slice (some ⟨h, 0, none⟩) n cap] 51 (0, 0)) := by
    subst hW; rw [Below.heap_alloc _ _ _ (by simp)]; exact heap_alloc2_new _ _ _
  have e2 : W.heap[w.heap.size + 2]? = some (.cells #[.int .i32 y, .int .i64 en] 60 (0, 0)) := by
    subst hW
    have := heap_alloc_new ((w.alloc (.cells #[.pointer (some ⟨ps, 0, none⟩)] 28)).alloc (.cells #[.slice (some ⟨h, 0, none⟩) n cap] 51)) (.cells #[.int .i32 y, .int .i64 en] 60)
    simpa using this
  exact ⟨by rw [cell_of_row W _ 0 _ _ _ e0]; rfl, by rw [cell_of_row W _ 0 _ _ _ e1]; rfl, frozen_of_row W _ 0 _ _ e1, by rw [cell_of_row W _ 0 _ _ _ e2]; rfl, by rw [cell_of_row W _ 1 _ _ _ e2]; rfl,
    hO.kept (hb.block h hl), fun h0 => (hm h0).below hb (by have := hg h0; omega), .inl rfl, by subst hW; simp, (Keep.of_below (hb.mono (by omega)))⟩

def chainB (C : List Int) (y : Int) : Bool := decide (0 < y) && bitAt C (y - 1).toNat
def addsOf (M : List Int) (gen y start : Int) (bc bf : Bool) : List Int :=
  (if bc = true then standA M gen (y - 1) else []) ++ (if bf = true then standA (if bc = true then M.set (y - 1).toNat gen else M) gen start else [])
def marksOf (M : List Int) (gen y start : Int) (bc bf : Bool) : List Int :=
  if bf = true then (if bc = true then M.set (y - 1).toNat gen else M).set start.toNat gen else (if bc = true then M.set (y - 1).toNat gen else M)

theorem St.near_free {w W W1 : World} {h0 N ps g h n cap : Nat} {y en : Int} {xs : List Value} {M : List Int} (s : St w W h0 N ps g h n cap y en xs M) (hgN : g < h0) (hN : h0 < N) (nr : Near W W1 g h) :
    W1.frozen? ⟨N + 1, 0, none⟩ = false :=
  (World.frozen?_of_block (nr.block (N + 1) (by have := s.size; omega) (by omega) (by have := s.hh; omega))).trans s.fz1
theorem St.near_cell {w W W1 : World} {h0 N ps g h n cap : Nat} {y en : Int} {xs : List Value} {M : List Int} (s : St w W h0 N ps g h n cap y en xs M) (hgN : g < h0) (hN : h0 < N) (nr : Near W W1 g h) :
    W1.cell? ⟨N + 1, 0, none⟩ = some (.slice (some ⟨h, 0, none⟩) n cap) :=
  (World.cell?_of_block (nr.block (N + 1) (by have := s.size; omega) (by omega) (by have := s.hh; omega))).trans s.bx1
theorem St.near_box0 {w W W1 : World} {h0 N ps g h n cap : Nat} {y en : Int} {xs : List Value} {M : List Int} (s : St w W h0 N ps g h n cap y en xs M) (hgN : g < h0) (hN : h0 < N) (nr : Near W W1 g h) :
    W1.cell? ⟨N, 0, none⟩ = some (.pointer (some ⟨ps, 0, none⟩)) :=
  (World.cell?_of_block (nr.block N (by have := s.size; omega) (by omega) (by have := s.hh; omega))).trans s.bx0
theorem St.near_box3 {w W W1 : World} {h0 N ps g h n cap : Nat} {y en : Int} {xs : List Value} {M : List Int} (s : St w W h0 N ps g h n cap y en xs M) (hgN : g < h0) (hN : h0 < N) (nr : Near W W1 g h) :
    W1.cell? ⟨N + 2, 1, none⟩ = some (.int .i64 en) :=
  (World.cell?_of_block (nr.block (N + 2) (by have := s.size; omega) (by omega) (by have := s.hh; omega))).trans s.bx3
theorem standA_le (M : List Int) (gen x : Int) : (standA M gen x).length ≤ 1 := by unfold standA; split <;> simp

theorem standA_len (M : List Int) (gen x : Int) : (standA M gen x).length ≤ 1 := standA_le M gen x
def addsC (M : List Int) (gen y : Int) (bc : Bool) : List Int := if bc = true then standA M gen (y - 1) else []
def marksC (M : List Int) (gen y : Int) (bc : Bool) : List Int := if bc = true then M.set (y - 1).toNat gen else M

theorem addsOf_true (M : List Int) (gen y start : Int) (bc : Bool) : addsOf M gen y start bc true = addsC M gen y bc ++ standA (marksC M gen y bc) gen start := by simp [addsOf, addsC, marksC]
theorem addsOf_false (M : List Int) (gen y start : Int) (bc : Bool) : addsOf M gen y start bc false = addsC M gen y bc := by simp [addsOf, addsC]
theorem marksOf_true (M : List Int) (gen y start : Int) (bc : Bool) : marksOf M gen y start bc true = (marksC M gen y bc).set start.toNat gen := by simp [marksOf, marksC]
theorem marksOf_false (M : List Int) (gen y start : Int) (bc : Bool) : marksOf M gen y start bc false = marksC M gen y bc := by simp [marksOf, marksC]
theorem addsC_le (M : List Int) (gen y : Int) (bc : Bool) : (addsC M gen y bc).length ≤ 1 := by
  unfold addsC; split
  · exact standA_le _ _ _
  · simp
theorem marksC_len (M : List Int) (gen y : Int) (bc : Bool) : (marksC M gen y bc).length = M.length := by
  unfold marksC; split <;> simp

set_option maxRecDepth 100000 in
set_option maxHeartbeats 2000000 in
theorem stepBack_any (ps tb g h n cap : Nat) (ma : Option Addr) (mc : Nat) (y : Nat) (en gen start : Int) (M F C J : List Int) (xs : List Value) (fa ca ja : Option Addr) (fc cc jc : Nat) (w : World)
    (I : In w ps tb g h ma mc gen start M F C J fa ca ja fc cc jc) (hO : Own w h n cap xs) (hy : y < 16384) (hn : n ≤ 1000000)
    (hJ : y < J.length) (hj : J[y]?.getD 0 < 0) (hF : y / 64 < F.length) (hC : 0 < y → (y - 1) / 64 < C.length)
    (hcm : chainB C y = true → (y : Int) - 1 < M.length) (hfm : bitAt F y = true → 0 ≤ start ∧ start < M.length) :
    Calls Tryd.prog 15 #[.pointer (some ⟨ps, 0, none⟩), .pointer (some ⟨tb, 0, none⟩), .slice (some ⟨h, 0, none⟩) n cap, .agg #[.int .i32 y, .int .i64 en]] w fun e w' => 
      ∃ h' n' cap', e = .returned (.slice (some ⟨h', 0, none⟩) n' cap') ∧ n' = n + (addsOf M gen y start (chainB C y) (bitAt F y)).length ∧ Own w' h' n' cap' (xs ++ thr en (addsOf M gen y start (chainB C y) (bitAt F y))) ∧
        (0 < M.length → Has w' g 3 ((marksOf M gen y start (chainB C y) (bitAt F y)).map (Value.int .i64))) ∧ Keep h g w w' := by
  obtain ⟨qj, rfl, cJ0⟩ := I.cellJ y hJ
  obtain ⟨jv, cJ, hjv⟩ : ∃ jv : Int, w.cell? ⟨qj, y, none⟩ = some (.int .i32 jv) ∧ jv < 0 := ⟨_, cJ0, hj⟩
  have hJi : (y : Int) < (J.length : Int) := by omega
  clear cJ0 hj
  have hps := I.S.lt
  have htb := I.T.lt
  have HC : Hid (0 < y → (y - 1) / 64 < C.length) := hC
  have HCM : Hid (chainB C y = true → (y : Int) - 1 < M.length) := hcm
  have HFM : Hid (bitAt F y = true → 0 ≤ start ∧ start < M.length) := hfm
  clear hC hcm hfm
  go_enter Tryd.func15, Tryd.ntmps15
  go_wp2_with fail
  refine (stepsFor_any _ _ start (.slice fa F.length fc) (.slice ca C.length cc) (.slice (some ⟨qj, 0, none⟩) J.length jc) _ ?_).mono ?_
  · exact I.T.kept (by rw [Below.heap_alloc _ _ _ (by simp; omega), Below.heap_alloc _ _ _ (by simp; omega), Below.heap_alloc _ _ _ (by omega)])
  rintro e W0 ⟨rfl, hW0⟩
  have st := boxes_St (M := M) (g := g) W0 hW0 hO I.mks I.lg
  have T0 := I.T.kept (st.keep.block tb I.lt.1 I.lt.2)
  have b0 := st.bx0
  have b1 := st.bx1
  have b2 : W0.cell? ⟨w.heap.size + 1 + 1, 0, none⟩ = _ := st.bx2
  have b3 : W0.cell? ⟨w.heap.size + 1 + 1, 1, none⟩ = _ := st.bx3
  have u3 := T0.chain
  clear hW0
  go_upto_if 23 with fail
  go_step
  go_step
  go_step
  go_step
  go_step
  go_cut [] (fun wc => ∃ h1 cap1, St w wc h w.heap.size ps g h1 (n + (addsC M gen y (chainB C y)).length) cap1 y en (xs ++ thr en (addsC M gen y (chainB C y))) (marksC M gen y (chainB C y)))
  case first =>
    by_cases h0 : 0 < y
    · obtain ⟨i1, hi1, hi2⟩ : ∃ i1 : Nat, (y : Int) - 1 = (i1 : Int) ∧ i1 = y - 1 := ⟨y - 1, by omega, rfl⟩
      have HI : Hid (i1 = y - 1) := hi2
      have hC1 : i1 / 64 < C.length := by rw [hi2]; exact HC.out h0
      have hi16 : i1 < 16384 := by omega
      have hyi : (0 : Int) < (y : Int) := by omega
      have ech : chainB C y = bitAt C i1 := by
        unfold chainB
        rw [hi1, Int.toNat_natCast]
        simp [h0]
      have E : Hid (chainB C y = bitAt C i1) := ech
      have E1 : Hid ((y : Int) - 1 = (i1 : Int)) := hi1
      clear ech hi2
      cases hb : bitAt C i1
      · go_wp2_with fail
        refine (bsHas_any ca _ cc i1 C rfl hC1 (by omega) W0 I.bc (st.keep.row I.rc I.lc)).mono ?_
        rintro e W1 ⟨rfl, nq, hW1⟩
        have st1 : St w W1 h w.heap.size ps g h n cap y en xs M := by rw [hW1]; exact st.drewN nq
        clear hW1 b0 b1 b2 b3 u3 T0 st
        go_wp2_with fail
        go_meet
        case rel =>
          rw [E.out, hb]
          exact ⟨h, cap, by simpa [addsC, marksC, thr] using st1⟩
      · go_wp2_with fail
        refine (bsHas_any ca _ cc i1 C rfl hC1 (by omega) W0 I.bc (st.keep.row I.rc I.lc)).mono ?_
        rintro e W1 ⟨rfl, nq, hW1⟩
        have st1 : St w W1 h w.heap.size ps g h n cap y en xs M := by rw [hW1]; exact st.drewN nq
        clear hW1 b0 b1 b2 b3 u3 T0 st
        have b0 := st1.bx0
        have b1 := st1.bx1
        have b2 : W1.cell? ⟨w.heap.size + 1 + 1, 0, none⟩ = _ := st1.bx2
        have b3 : W1.cell? ⟨w.heap.size + 1 + 1, 1, none⟩ = _ := st1.bx3
        have hiM : (i1 : Int) < M.length := by rw [← E1.out]; exact HCM.out (E.out.trans hb)
        obtain rfl := I.ma (by omega)
        have hLG : g < h := I.lg (by omega)
        go_wp2_with fail
        refine (stand_any ps g h n cap M.length mc i1 en gen M xs W1 (I.S.kept (st1.keep.block ps I.lp.1 I.lp.2)) (st1.mks (by omega)) rfl (by omega) hiM I.lM st1.own (by omega) I.lp.2 (by omega)).mono ?_
        rintro e W2 ⟨h1, cap1, rfl, o1, hh1, hm1, nr1⟩
        have st2 := st1.step hLG hO.lt o1 hh1 hm1 nr1
        have f1 := st1.near_free hLG hO.lt nr1
        have c1 := st1.near_cell hLG hO.lt nr1
        clear b0 b1 b2 b3 st1
        go_wp2_with fail
        go_meet
        case rel =>
          rw [E.out, hb]
          refine ⟨h1, cap1, ?_⟩
          have e1 : addsC M gen y true = standA M gen i1 := by unfold addsC; rw [if_pos rfl, E1.out]
          have e2 : marksC M gen y true = M.set (i1 : Int).toNat gen := by unfold marksC; rw [if_pos rfl, E1.out]
          rw [e1, e2]
          exact st2
    · have hy0 : y = 0 := by omega
      have HY : Hid (y = 0) := hy0
      have hd1 : decide ((0 : Int) < (y : Int)) = false := decide_eq_false (by omega)
      have hd2 : decide (0 < y) = false := decide_eq_false (by omega)
      clear hy0 h0
      go_wp2_with fail
      go_meet
      case rel =>
        have ech : chainB C y = false := by unfold chainB; rw [hd1]; rfl
        rw [ech]
        exact ⟨h, cap, by simpa [addsC, marksC, thr] using st⟩
  case rest =>
    obtain ⟨h1, cap1, st2⟩ := hcut
    clear b0 b1 b2 b3 st T0 u3
    have T3 := I.T.kept (st2.keep.block tb I.lt.1 I.lt.2)
    have u4 := T3.jump
    have u2 := T3.first
    have cJ3 : wc.cell? ⟨qj, y, none⟩ = _ := (World.cell?_of_block (st2.keep.block qj (I.lj qj rfl).1 (I.lj qj rfl).2)).trans cJ
    go_wp2_with fail
    refine (bsHas_any fa _ fc y F rfl hF (by omega) wc I.bf (st2.keep.row I.rf I.lf)).mono ?_
    rintro e W4 ⟨rfl, nq4, hW4⟩
    have st4 : St w W4 h w.heap.size ps g h1 (n + (addsC M gen y (chainB C y)).length) cap1 y en (xs ++ thr en (addsC M gen y (chainB C y))) (marksC M gen y (chainB C y)) := by rw [hW4]; exact st2.drewN nq4
    clear hW4 st2 u4 u2 T3 cJ3
    obtain ⟨n1, hn1⟩ : ∃ n1, n1 = n + (addsC M gen y (chainB C y)).length := ⟨_, rfl⟩
    obtain ⟨xs1, hxs1⟩ : ∃ xs1, xs1 = xs ++ thr en (addsC M gen y (chainB C y)) := ⟨_, rfl⟩
    obtain ⟨M1, hM1⟩ : ∃ M1, M1 = marksC M gen y (chainB C y) := ⟨_, rfl⟩
    have hnn : n1 ≤ 1000001 := by have := addsC_le M gen y (chainB C y); omega
    have hml : M1.length = M.length := by rw [hM1]; exact marksC_len _ _ _ _
    have HN1 : Hid (n1 = n + (addsC M gen y (chainB C y)).length) := hn1
    have HX1 : Hid (xs1 = xs ++ thr en (addsC M gen y (chainB C y))) := hxs1
    have HM1 : Hid (M1 = marksC M gen y (chainB C y)) := hM1
    rw [← hn1, ← hxs1, ← hM1] at st4
    clear hn1 hxs1 hM1
    cases hb : bitAt F y
    · have b1 := st4.bx1
      go_wp2_with fail
      go_ret
      exact ⟨h1, n1, cap1, rfl, by rw [hb, addsOf_false]; exact HN1.out, by rw [hb, addsOf_false, ← HX1.out]; exact st4.own, fun hm => by rw [hb, marksOf_false, ← HM1.out]; exact st4.mks (by rw [hml]; exact hm), st4.keep⟩
    · have st5 : St w W4.drew h w.heap.size ps g h1 n1 cap1 y en xs1 M1 := st4.drewN 1
      obtain ⟨hs0, hs1⟩ := HFM.out hb
      obtain rfl := I.ma (by omega)
      have hLG : g < h := I.lg (by omega)
      have HS := stand_any ps g h1 n1 cap1 M.length mc start en gen M1 _ W4.drew (I.S.kept (st5.keep.block ps I.lp.1 I.lp.2)) (st5.mks (by omega)) hml hs0 hs1 I.lM st5.own
        (by have := st5.hh; have := hO.lt; omega) I.lp.2 (by omega)
      have hwr : IntKind.i32.wrap start = start := by have := I.lM; rw [IntKind.wrap_i32]; omega
      have T5 := I.T.kept (st5.keep.block tb I.lt.1 I.lt.2)
      have u1 : W4.cell? _ = _ := T5.start
      have b0 : W4.cell? _ = _ := st5.bx0
      have b1 : W4.cell? _ = _ := st5.bx1
      have b2 : W4.cell? ⟨w.heap.size + 1 + 1, 0, none⟩ = _ := st5.bx2
      have b3 : W4.cell? ⟨w.heap.size + 1 + 1, 1, none⟩ = _ := st5.bx3
      clear T5 st4
      go_upto_region 21 with fail
      go_region_with (go_at_call 18; refine HS.mono ?_; rintro e W5 ⟨h2, cap2, rfl, o2, hh2, hm2, nr2⟩; have f2 := st5.near_free hLG hO.lt nr2; have c2 := st5.near_cell hLG hO.lt nr2)
      all_goals
        have st6 := st5.step hLG hO.lt o2 hh2 hm2 nr2
        clear b0 b1 b2 b3 u1 HS
        go_wp2_with fail
        go_ret
        exact ⟨h2, _, cap2, rfl, by rw [hb, addsOf_true, List.length_append, ← HM1.out, ← Nat.add_assoc, ← HN1.out], by rw [hb, addsOf_true, thr_append, ← HM1.out, ← List.append_assoc, ← HX1.out]; exact st6.own, fun hm => by rw [hb, marksOf_true, ← HM1.out]; exact st6.mks (by simp; omega), st6.keep⟩
end Go.Proofs.Qxb6613719aDoor
