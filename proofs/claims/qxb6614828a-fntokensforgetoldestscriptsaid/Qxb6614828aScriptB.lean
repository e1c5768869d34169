import Derived.Test.Qxb6614828aScriptC
import Derived.Deep.RegionWith
namespace Go.Proofs.Qxb6614828a
open Go.RowKit
set_option linter.unusedVariables false
set_option maxRecDepth 1000000 in
set_option maxHeartbeats 8000000 in
theorem law5_B (a a1 : Option Addr) (n c c1 g0 g1 g2 b t e0 : Nat) (keep : Int) (L : Nat → ByteArray × Int × Int) (O : List Int) (w W : World) (hn : n ≤ 4096) (hO : O.length ≤ 4096) (E : Ents w a L n) (EO : Ints w a1 O) (B : Below w.heap.size w W)
    (hg : w.heap.size ≤ g0 ∧ g0 < g1 ∧ g1 < g2 ∧ g2 < b ∧ b < t) (hk0 : 0 ≤ keep) (h0 : Has W g0 3 (canonC L n n)) (h1 : Has W g1 3 (stateC [] 0 n)) (h2 : Has W g2 3 (freedC [] n)) (T : Tok W b t e0 0 L 0 (fun _ => none) [] 0) (hz : W.heap.size = e0)
    (u6 u26 u27 u28 u29 u30 u31 u32 u33 u34 u35 u36 u37 u38 u39 u40 u41 u42 u43 u44 u45 u46 u47 u48 u49 u50 u51 : Value) :
    Code.wp Try.prog (seqTail 11 (Try.f5.body.getD .skip)) (bodyPost Try.prog Try.f5 (fun e w' => e = .returned (.bool true) ∧ Below w.heap.size w w'))
      ⟨(.slice a n c :: .slice a1 O.length c1 :: .int .i64 keep :: undef :: undef :: undef :: u6 :: .int .i64 n :: .slice (some ⟨g0, 0, none⟩) n n :: .slice (some ⟨g1, 0, none⟩) n n :: .slice (some ⟨g2, 0, none⟩) 0 n :: .int .i64 0 :: .int .u64 0 :: .pointer (some ⟨t, 0, none⟩) :: undef :: undef :: undef :: undef :: undef :: undef :: undef :: undef :: undef :: undef :: undef :: undef :: u26 :: u27 :: u28 :: u29 :: u30 :: u31 :: u32 :: u33 :: u34 :: u35 :: u36 :: u37 :: u38 :: u39 :: u40 :: u41 :: u42 :: u43 :: u44 :: u45 :: u46 :: u47 :: u48 :: u49 :: u50 :: u51 :: undef :: undef :: undef :: undef :: undef :: undef :: undef :: undef :: undef :: undef :: undef :: undef :: undef :: undef :: undef :: undef :: undef :: undef :: undef :: undef :: undef :: undef :: undef :: undef :: undef :: undef :: undef :: undef :: undef :: undef :: undef :: undef :: undef :: undef :: undef :: undef :: undef :: undef :: undef :: undef :: undef :: undef :: undef :: undef :: undef :: undef :: undef :: undef :: undef :: undef :: undef :: undef :: undef :: undef :: undef :: undef :: undef :: undef :: undef :: undef :: undef :: undef :: undef :: undef :: undef :: undef :: undef :: undef :: undef :: undef :: undef :: undef :: undef :: undef :: undef :: undef :: undef :: undef :: undef :: undef :: undef :: undef :: undef :: undef :: undef :: undef :: undef :: undef :: undef :: undef :: undef :: undef :: undef :: undef :: undef :: undef :: undef :: undef :: undef :: undef :: undef :: undef :: undef :: undef :: undef :: undef :: undef :: undef :: undef :: undef :: undef :: undef :: undef :: undef :: undef :: undef :: undef :: undef :: undef :: undef :: undef :: undef :: undef :: undef :: undef :: undef :: undef :: undef :: undef :: undef :: undef :: undef :: undef :: undef :: undef :: undef :: undef :: undef :: undef :: undef :: undef :: undef :: undef :: undef :: undef :: undef :: undef :: undef :: undef :: undef :: undef :: undef :: undef :: undef :: undef :: undef :: undef :: undef :: undef :: undef :: undef :: List.nil).toArray, []⟩ W := by
  conv => arg 2; whnf
  go_step
  go_step
  go_cut [] from 52 to 73 (fun wc => Tok wc b t e0 n L n (putsK L n) [] 0 ∧ Below b W wc)
  case rest =>
    rename World => W2
    obtain ⟨T2, B2⟩ := hcut
    go_step
    exact law5_C a a1 n c c1 g0 g1 g2 b t e0 n keep L O w W2 hn hO E EO hg hk0 ⟨h0.below B2 (by omega), h1.below B2 (by omega), h2.below B2 (by omega), T2, fun i hi => (by rw [putsK_canon L i n hi]; simp), List.nodup_nil, fun x hx => (by cases hx), Nat.zero_le _, B.trans (B2.mono (by omega))⟩ _ _ _ _ _ _ _ _ _ _ _ _ _ _ _ _ _ _ _ _ _ _ _ _ _ _ _ _ _ _ _ _ _ _ _ _ _ _ _ _ _ _ _ _ _ _ _ _ _ _
  case first =>
    have HT : Hid (Tok W b t e0 0 L 0 (fun _ => none) [] 0) := T
    have HZ : Hid (W.heap.size = e0) := hz
    clear T hz h0 h1 h2 EO
    go_wp2_with fail
    go_loopw [14] (fun i wr => ∃ k : Nat, k ≤ n ∧ i = .int .i64 (k : Int) ∧ Tok wr b t e0 k L k (putsK L k) [] 0 ∧ wr.heap.size = e0 + k ∧ Below b W wr) (fun i _ => n - (intOf i).toNat)
    case atStart => exact ⟨0, Nat.zero_le _, rfl, HT.out, by have := HZ.out; omega, Below.refl _ _⟩
    case round =>
      obtain ⟨k, hk, rfl, T, hz, BW⟩ := hrel
      clear HT HZ
      by_cases hlt : k < n
      · have hkl : (k : Int) < (n : Int) := by omega
        obtain ⟨x, la, ve, hx⟩ : ∃ x la ve, L k = (x, la, ve) := ⟨_, _, _, rfl⟩
        obtain ⟨eb, eo, rfl, e1, e2, e3⟩ := (E.below (B.trans (BW.mono (by omega))) E.lt).look k hlt
        have hsz := E.sz k hlt
        rw [hx] at e1 e2 e3 hsz
        have CP := put_any wr.drew b t e0 k k L (putsK L k) 0 x la ve (T.kept (by omega) fun _ _ _ => rfl) (by show e0 + k = wr.heap.size; omega) hx hsz (by omega)
        have HX : Hid (putsK L (k + 1) = put (putsK L k) (kb x) k) := by
          show putsK L (k + 1) = put (putsK L k) (kb x) k
          rw [putsK, hx]
        have HZ : Hid (wr.heap.size = e0 + k) := hz
        clear T hz hx hsz
        dsimp only at e1 e2 e3
        go_wp2_with fail
        go_region_with (go_at_call 16; refine CP.mono ?_; rintro e w1 ⟨rfl, T1, hz1, B1⟩)
        all_goals
          go_wp2_with fail
          go_roundw
          case rel =>
            refine ⟨k + 1, by omega, by go_num, ?_, ?_, (below_drew BW).trans B1⟩
            · rw [HX.out]; exact T1
            · rw [hz1]; have := HZ.out; show wr.heap.size + 1 = _; omega
          case measure => simp [intOf]; omega
      · obtain rfl : k = n := by omega
        go_wp2_with fail
        go_meet
        case rel => exact ⟨T, BW⟩
end Go.Proofs.Qxb6614828a
