import Derived.Test.Qxb6613719aDoorPlain
namespace Go.Proofs.Qxb6613719aDoor
open Go.RowKit
set_option linter.unusedVariables false
theorem chain_pos4 {C : List Int} {y : Int} (h : chainB C y = true) : 0 < y := by
  unfold chainB at h; simp at h; exact h.1
/-- A search and a table as they stand between the calls of 'stepBack': the marks' own block is N. -/
structure Sta (N ps tb : Nat) (w : World) (ma : Option Addr) (m : Nat) (gen start : Int) (M F C J : List Int) (fa ca ja : Option Addr) (fc cc jc : Nat) : Prop where
  S : Search w ps (.slice ma m m) gen
  T : Table w tb start (.slice fa F.length fc) (.slice ca C.length cc) (.slice ja J.length jc)
  lenM : M.length = m
  ma : 0 < m → ma = some ⟨N, 0, none⟩
  mks : 0 < m → Has w N 3 (M.map (Value.int .i64))
  rf : Row w .u64 fa F
  rc : Row w .u64 ca C
  rj : Row w .i32 ja J
  bf : ∀ j : Nat, 0 ≤ F[j]?.getD 0 ∧ F[j]?.getD 0 ≤ 18446744073709551615
  bc : ∀ j : Nat, 0 ≤ C[j]?.getD 0 ∧ C[j]?.getD 0 ≤ 18446744073709551615
  lf : ∀ q, fa = some ⟨q, 0, none⟩ → q < N
  lc : ∀ q, ca = some ⟨q, 0, none⟩ → q < N
  lj : ∀ q, ja = some ⟨q, 0, none⟩ → q < N
  lN : N < w.heap.size
  lp : 0 < m → ps ≠ N
  lt : 0 < m → tb ≠ N
  lM : m ≤ 16384

theorem Sta.call {N ps tb : Nat} {w : World} {ma : Option Addr} {m : Nat} {gen start : Int} {M F C J : List Int} {fa ca ja : Option Addr} {fc cc jc : Nat}
    (I : Sta N ps tb w ma m gen start M F C J fa ca ja fc cc jc) (pa ea : Option Addr) (pc ec : Nat) (y : Nat) (en : Int) (P E : List Int)
    (hPE : P.length = E.length) (hn : P.length ≤ 20000)
    (rP : Row w .i32 pa P) (rE : Row w .i64 ea E) (hy : y < 16384)
    (hJ : y < J.length) (hj : J[y]?.getD 0 < 0) (hF : y / 64 < F.length) (hC : 0 < y → (y - 1) / 64 < C.length)
    (hcm : chainB C y = true → (y : Int) - 1 < m) (hfm : bitAt F y = true → 0 ≤ start ∧ start < m) :
    Calls Tryd.prog 10 #[.pointer (some ⟨ps, 0, none⟩), .pointer (some ⟨tb, 0, none⟩), .slice pa P.length pc, .slice ea P.length ec, .int .i32 y, .int .i64 en] w fun e w' =>
      ∃ q1 q2 O EO, O = P ++ addsOf M gen y start (chainB C y) (bitAt F y) ∧ EO = E ++ List.replicate (addsOf M gen y start (chainB C y) (bitAt F y)).length en ∧
        e = .returned (.tuple #[.slice (some ⟨q1, 0, none⟩) O.length O.length, .slice (some ⟨q2, 0, none⟩) O.length O.length]) ∧ w.heap.size ≤ q1 ∧ w.heap.size ≤ q2 ∧ q1 < w'.heap.size ∧ q2 < w'.heap.size ∧
        Row w' .i32 (some ⟨q1, 0, none⟩) O ∧ Row w' .i64 (some ⟨q2, 0, none⟩) EO ∧
        Sta N ps tb w' ma m gen start (marksOf M gen y start (chainB C y) (bitAt F y)) F C J fa ca ja fc cc jc ∧ Keep w.heap.size N w w' := by
  have hm := I.lenM
  subst hm
  have hps := I.S.lt
  have htb := I.T.lt
  have hN := I.lN
  obtain ⟨g, hg1, hg2⟩ : ∃ g : Nat, (0 < M.length → g = N) ∧ (¬ 0 < M.length → g = w.heap.size) := by
    by_cases h0 : 0 < M.length
    · exact ⟨_, fun _ => rfl, fun h => absurd h0 h⟩
    · exact ⟨_, fun h => absurd h h0, fun _ => rfl⟩
  have hgne : ∀ q, q < w.heap.size → q ≠ N → q ≠ g := fun q hq hqN => by
    by_cases h0 : 0 < M.length
    · rw [hg1 h0]; exact hqN
    · rw [hg2 h0]; omega
  have hgne2 : ∀ q, q < w.heap.size → (0 < M.length → q ≠ N) → q ≠ g := fun q hq hqN => by
    by_cases h0 : 0 < M.length
    · rw [hg1 h0]; exact hqN h0
    · rw [hg2 h0]; omega
  have II : In w ps tb g w.heap.size ma M.length gen start M F C J fa ca ja fc cc jc := by
    refine ⟨I.S, I.T, ?_, ?_, I.rf, I.rc, I.rj, I.bf, I.bc, fun q hq => ?_, fun q hq => ?_, fun q hq => ?_, ?_, ⟨hps, hgne2 _ hps I.lp⟩, ⟨htb, hgne2 _ htb I.lt⟩, I.lM⟩
    · intro h0; rw [hg1 h0]; exact I.ma h0
    · intro h0; rw [hg1 h0]; exact I.mks h0
    · have := I.lf q hq; exact ⟨by omega, hgne q (by omega) (by omega)⟩
    · have := I.lc q hq; exact ⟨by omega, hgne q (by omega) (by omega)⟩
    · have := I.lj q hq; exact ⟨by omega, hgne q (by omega) (by omega)⟩
    · intro h0; rw [hg1 h0]; exact hN
  refine (zzStepBack_any ps tb g ma M.length pa ea pc ec y en gen start P E M F C J fa ca ja fc cc jc w II hPE hn rP rE hy hJ hj hF hC hcm hfm).mono ?_
  rintro e w' ⟨q1, q2, n', hn', rfl, hq1, hq2, h1, h2, h3, K⟩
  refine ⟨q1, q2, _, _, rfl, rfl, ?_, hq1, hq2, h1.lt, h2.lt, Row.of_has h1, Row.of_has h2, ?_, ?_⟩
  · rw [List.length_append, ← hn']
  · refine ⟨I.S.kept (K.block _ hps (hgne2 _ hps I.lp)), I.T.kept (K.block _ htb (hgne2 _ htb I.lt)), marksOf_len _ _ _ _ _ _, I.ma, ?_, ?_, ?_, ?_, I.bf, I.bc, I.lf, I.lc, I.lj, Nat.lt_of_lt_of_le hN K.size, I.lp, I.lt, I.lM⟩
    · intro h0; have := h3 h0; rw [hg1 h0] at this; exact this
    · exact K.row I.rf fun q hq => by have := I.lf q hq; exact ⟨by omega, hgne q (by omega) (by omega)⟩
    · exact K.row I.rc fun q hq => by have := I.lc q hq; exact ⟨by omega, hgne q (by omega) (by omega)⟩
    · exact K.row I.rj fun q hq => by have := I.lj q hq; exact ⟨by omega, hgne q (by omega) (by omega)⟩
  · exact ⟨K.os, K.tape, K.output, K.size, fun k hk hne => K.block k hk (hgne k hk hne)⟩

theorem Sta.row {N ps tb : Nat} {w : World} {ma : Option Addr} {m : Nat} {gen start : Int} {M F C J : List Int} {fa ca ja : Option Addr} {fc cc jc : Nat}
    (I : Sta N ps tb w ma m gen start M F C J fa ca ja fc cc jc) : Row w .i64 ma M := by
  by_cases h0 : 0 < m
  · rw [I.ma h0]; exact Row.of_has (I.mks h0)
  · rw [List.eq_nil_of_length_eq_zero (show M.length = 0 by have := I.lenM; omega)]; exact Row.nil _ _ _

theorem adds_nil (M : List Int) (gen y start : Int) (bc bf : Bool) (hbc : bc = true → 0 ≤ y - 1 ∧ y - 1 < M.length) (hbf : bf = true → 0 ≤ start ∧ start < M.length)
    (h : ∀ x : Nat, x < M.length → reachB bc bf y start x = true → M[x]?.getD 0 = gen) : addsOf M gen y start bc bf = [] := by
  unfold addsOf
  have h1 : bc = true → M[(y - 1).toNat]?.getD 0 = gen := fun hb => by
    have := hbc hb
    refine h _ (by omega) ?_
    unfold reachB
    rw [show (((y - 1).toNat : Nat) : Int) = y - 1 by omega]
    simp [hb]
  have h2 : bf = true → M[start.toNat]?.getD 0 = gen := fun hb => by
    have := hbf hb
    refine h _ (by omega) ?_
    unfold reachB
    rw [show ((start.toNat : Nat) : Int) = start by omega]
    simp [hb]
  have e : ∀ x, M[x.toNat]?.getD 0 = gen → standA M gen x = [] := fun x hx => by unfold standA; rw [if_pos hx]
  cases bc
  · cases bf
    · rfl
    · rw [if_neg (by simp), if_pos rfl, if_neg (by simp), e _ (h2 rfl)]; rfl
  · rw [if_pos rfl, if_pos rfl, set_same M _ gen (by have := hbc rfl; omega) (h1 rfl), e _ (h1 rfl)]
    cases bf
    · rfl
    · rw [if_pos rfl, e _ (h2 rfl)]; rfl
end Go.Proofs.Qxb6613719aDoor
