import Derived.Test.Qxb6613719aDoorPairs
namespace Go.Proofs.Qxb6613719aDoor
open Go.RowKit
set_option linter.unusedVariables false
set_option maxHeartbeats 1000000 in
theorem prefix_any (a1 a2 a3 a4 : Option Addr) (c1 c2 c3 c4 : Nat) (OP OE P E : List Int) (w : World) (hn : OP.length ≤ 30000) (h12 : OE.length = OP.length) (h34 : E.length = P.length) (hle : P.length ≤ OP.length)
    (hP : ∀ j : Nat, j < P.length → OP[j]?.getD 0 = P[j]?.getD 0) (hE : ∀ j : Nat, j < P.length → OE[j]?.getD 0 = E[j]?.getD 0)
    (r1 : Row w .i32 a1 OP) (r2 : Row w .i64 a2 OE) (r3 : Row w .i32 a3 P) (r4 : Row w .i64 a4 E) :
    Calls Tryd.prog 12 #[.slice a1 OP.length c1, .slice a2 OP.length c2, .slice a3 P.length c3, .slice a4 P.length c4] w fun e w' => e = .returned (.bool true) ∧ ∃ nq, w' = w.drewN nq := by
  have HP : Hid (∀ j : Nat, j < P.length → OP[j]?.getD 0 = P[j]?.getD 0) := hP
  have HE : Hid (∀ j : Nat, j < P.length → OE[j]?.getD 0 = E[j]?.getD 0) := hE
  have H1 : Hid (OE.length = OP.length ∧ E.length = P.length) := ⟨h12, h34⟩
  have hle2 : ¬ ((OP.length : Int) < (P.length : Int)) := by omega
  have hd : decide ((OP.length : Int) < (P.length : Int)) = false := decide_eq_false hle2
  have hd2 : decide (OP.length < P.length) = false := decide_eq_false (by omega)
  clear hP hE h12 h34
  go_enter Tryd.func12, Tryd.ntmps12
  go_wp2
  go_loopw [9] (fun i wr => ∃ k : Nat, k ≤ P.length ∧ i = .int .i64 k ∧ Hid (∃ nq, wr = w.drewN nq)) (fun i _ => P.length - (intOf i).toNat)
  case atStart => exact ⟨0, Nat.zero_le _, rfl, 0, rfl⟩
  case round =>
    obtain ⟨k, hk, rfl, hw⟩ := hrel
    by_cases hlt : k < P.length
    · obtain ⟨q1, rfl, e1⟩ := r1.look k _ (getD_some (by omega))
      obtain ⟨q2, rfl, e2⟩ := r2.look k _ (getD_some (by have := H1.out; omega))
      obtain ⟨q3, rfl, e3⟩ := r3.look k _ (getD_some (by omega))
      obtain ⟨q4, rfl, e4⟩ := r4.look k _ (getD_some (by have := H1.out; omega))
      rw [HP.out k hlt] at e1
      rw [HE.out k hlt] at e2
      obtain ⟨pv, hpv⟩ : ∃ pv, pv = P[k]?.getD 0 := ⟨_, rfl⟩
      obtain ⟨ev, hev⟩ : ∃ ev, ev = E[k]?.getD 0 := ⟨_, rfl⟩
      rw [← hpv] at e1 e3
      rw [← hev] at e2 e4
      clear hpv hev
      have d1 : wr.cell? ⟨q1, k, none⟩ = some (.int .i32 pv) := by obtain ⟨nq, rfl⟩ := hw.out; exact e1
      have d2 : wr.cell? ⟨q2, k, none⟩ = some (.int .i64 ev) := by obtain ⟨nq, rfl⟩ := hw.out; exact e2
      have d3 : wr.cell? ⟨q3, k, none⟩ = some (.int .i32 pv) := by obtain ⟨nq, rfl⟩ := hw.out; exact e3
      have d4 : wr.cell? ⟨q4, k, none⟩ = some (.int .i64 ev) := by obtain ⟨nq, rfl⟩ := hw.out; exact e4
      clear e1 e2 e3 e4 r1 r2 r3 r4
      have hl1 : (k : Int) < (P.length : Int) := by omega
      have hl2 : (k : Int) < (OP.length : Int) := by omega
      go_wp2
      go_quiet (fail)
      go_wp2
      go_roundw
      case rel => exact ⟨k + 1, by omega, by go_num, by obtain ⟨nq', rfl⟩ := hw.out; exact ⟨nq' + nq, by rw [World.drewN_drewN]⟩⟩
      case measure => simp [intOf]; omega
    · go_wp2
      go_ret
      exact ⟨rfl, hw.out⟩
end Go.Proofs.Qxb6613719aDoor
