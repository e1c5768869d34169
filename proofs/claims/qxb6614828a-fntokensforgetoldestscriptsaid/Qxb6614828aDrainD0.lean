import Derived.Test.Qxb6614828aDrainD
namespace Go.Proofs.Qxb6614828a
open Go.RowKit
set_option linter.unusedVariables false
set_option maxRecDepth 1000000 in
set_option maxHeartbeats 4000000 in
theorem law6_D (a : Option Addr) (n c g2 b t e0 nn : Nat) (keep : Int) (L : Nat → ByteArray × Int × Int) (K : List UInt8 → Option Nat) (Q : List Nat) (fg : Int) (w W : World) (hn : n ≤ 4096) (E : Ents w a L n) (B : Below w.heap.size w W)
    (hg : w.heap.size ≤ g2 ∧ g2 < b ∧ b < t) (H2 : Has W g2 3 (freedC Q n)) (hk0 : 0 ≤ keep) (hQ : ∀ i, i ∈ Q → i < n) (hQn : Q.length ≤ n) (T : Tok W b t e0 nn L n K Q fg)
    (u1 u6 u8 u9 u12 u13 u14 u15 u25 u26 u27 u28 u29 u30 u31 u32 u33 u34 u35 u36 u37 u38 u39 u40 u41 u42 u43 u44 u45 u46 u47 u48 u49 u50 u51 u52 u53 u54 u55 u56 u57 u58 u59 u60 u61 u62 u63 u64 u65 u66 u67 u68 u69 u70 u71 u72 u73 u74 u75 u76 u77 u78 u79 u80 u81 u82 u83 u84 u85 u86 u87 u88 u89 u90 u91 u92 u93 u94 u95 u96 u97 u98 u99 u100 u101 u102 u103 u104 u105 u106 u107 u108 u109 u110 u111 u112 : Value) :
    Code.wp Try.prog (seqTail 11 (Try.f6.body.getD .skip)) (bodyPost Try.prog Try.f6 (fun e w' => e = .returned (.bool true) ∧ Below w.heap.size w w'))
      ⟨(.slice a n c :: u1 :: .int .i64 keep :: undef :: undef :: undef :: u6 :: .int .i64 n :: u8 :: u9 :: .slice (some ⟨g2, 0, none⟩) Q.length n :: .pointer (some ⟨t, 0, none⟩) :: u12 :: u13 :: u14 :: u15 :: undef :: undef :: undef :: undef :: undef :: undef :: undef :: undef :: undef :: u25 :: u26 :: u27 :: u28 :: u29 :: u30 :: u31 :: u32 :: u33 :: u34 :: u35 :: u36 :: u37 :: u38 :: u39 :: u40 :: u41 :: u42 :: u43 :: u44 :: u45 :: u46 :: u47 :: u48 :: u49 :: u50 :: u51 :: u52 :: u53 :: u54 :: u55 :: u56 :: u57 :: u58 :: u59 :: u60 :: u61 :: u62 :: u63 :: u64 :: u65 :: u66 :: u67 :: u68 :: u69 :: u70 :: u71 :: u72 :: u73 :: u74 :: u75 :: u76 :: u77 :: u78 :: u79 :: u80 :: u81 :: u82 :: u83 :: u84 :: u85 :: u86 :: u87 :: u88 :: u89 :: u90 :: u91 :: u92 :: u93 :: u94 :: u95 :: u96 :: u97 :: u98 :: u99 :: u100 :: u101 :: u102 :: u103 :: u104 :: u105 :: u106 :: u107 :: u108 :: u109 :: u110 :: u111 :: u112 :: undef :: undef :: undef :: undef :: undef :: undef :: undef :: undef :: undef :: undef :: undef :: undef :: undef :: undef :: undef :: undef :: undef :: undef :: undef :: undef :: undef :: undef :: undef :: undef :: undef :: undef :: undef :: undef :: undef :: undef :: undef :: undef :: undef :: undef :: undef :: undef :: undef :: undef :: undef :: undef :: undef :: undef :: undef :: undef :: undef :: undef :: undef :: undef :: undef :: undef :: undef :: undef :: undef :: undef :: undef :: undef :: undef :: undef :: undef :: undef :: undef :: undef :: undef :: undef :: undef :: undef :: undef :: undef :: undef :: undef :: undef :: undef :: undef :: undef :: undef :: undef :: undef :: undef :: undef :: undef :: undef :: undef :: undef :: undef :: undef :: undef :: undef :: undef :: undef :: undef :: List.nil).toArray, []⟩ W := by
  conv => arg 2; whnf
  by_cases hk : keep < (Q.length : Int)
  · have L := law6_D1 a n c g2 b t e0 (Q.length - keep.toNat) nn keep L K Q fg w W hn E B hg H2 hk0 (fun _ => by omega) (fun h => by omega) hQ hQn T
    rw [show ((Q.length - keep.toNat : Nat) : Int) = (Q.length : Int) - keep by omega] at L
    have d : decide (keep < (Q.length : Int)) = true := decide_eq_true hk
    clear T E B H2 hQ
    go_upto_if 117 with fail
    repeat (first | exact L _ _ _ _ _ _ _ _ _ _ _ _ _ _ _ _ _ _ _ _ _ _ _ _ _ _ _ _ _ _ _ _ _ _ _ _ _ _ _ _ _ _ _ _ _ _ _ _ _ _ _ _ _ _ _ _ _ _ _ _ _ _ _ _ _ _ _ _ _ _ _ _ _ _ _ _ _ _ _ _ _ _ _ _ _ _ _ _ _ _ _ _ _ _ _ _ _ _ _ _ _ _ _ _ | go_step)
  · have L := law6_D1 a n c g2 b t e0 0 nn keep L K Q fg w W hn E B hg H2 hk0 (fun h => absurd h hk) (fun _ => rfl) hQ hQn T
    have d : decide (keep < (Q.length : Int)) = false := decide_eq_false hk
    clear T E B H2 hQ
    go_upto_if 117 with fail
    repeat (first | exact L _ _ _ _ _ _ _ _ _ _ _ _ _ _ _ _ _ _ _ _ _ _ _ _ _ _ _ _ _ _ _ _ _ _ _ _ _ _ _ _ _ _ _ _ _ _ _ _ _ _ _ _ _ _ _ _ _ _ _ _ _ _ _ _ _ _ _ _ _ _ _ _ _ _ _ _ _ _ _ _ _ _ _ _ _ _ _ _ _ _ _ _ _ _ _ _ _ _ _ _ _ _ _ _ | go_step)
end Go.Proofs.Qxb6614828a
