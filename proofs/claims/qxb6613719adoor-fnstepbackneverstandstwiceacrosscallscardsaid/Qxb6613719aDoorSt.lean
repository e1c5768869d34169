import Derived.Test.Qxb6613719aDoorStand
import Derived.Deep.RegionWith
namespace Go.Proofs.Qxb6613719aDoor
open Go.RowKit
set_option linter.unusedVariables false

def thr (en : Int) : List Int → List Value
  | [] => []
  | x :: r => .int .i32 x :: .int .i64 en :: thr en r
def standA (M : List Int) (gen x : Int) : List Int := if M[x.toNat]?.getD 0 = gen then [] else [x]
theorem thr_append (en : Int) : ∀ (a b : List Int), thr en (a ++ b) = thr en a ++ thr en b
  | [], b => rfl
  | x :: r, b => by simp [thr, thr_append en r b]
theorem set_same (M : List Int) (i : Nat) (gen : Int) (hi : i < M.length) (h : M[i]?.getD 0 = gen) : M.set i gen = M := by
  rw [List.getElem?_eq_getElem hi, Option.getD_some] at h
  rw [← h]; exact List.set_getElem_self hi
theorem Near.refl (w : World) (g h : Nat) : Near w w g h := ⟨rfl, rfl, rfl, Nat.le_refl _, fun _ _ _ _ => rfl⟩

theorem stand_any (ps g h n cap : Nat) (m c : Nat) (x en gen : Int) (M : List Int) (xs : List Value) (w : World) (hS : Search w ps (.slice (some ⟨g, 0, none⟩) m c) gen)
    (hM : Has w g 3 (M.map (Value.int .i64))) (hm : M.length = m) (hx0 : 0 ≤ x) (hx1 : x < m) (hmm : m ≤ 16384)
    (hO : Own w h n cap xs) (hgh : g ≠ h) (hpg : ps ≠ g) (hn : n ≤ 1048576) :
    Calls Tryd.prog 18 #[.pointer (some ⟨ps, 0, none⟩), .slice (some ⟨h, 0, none⟩) n cap, .int .i32 x, .int .i64 en] w fun e w' =>
      ∃ h' cap', e = .returned (.slice (some ⟨h', 0, none⟩) (n + (standA M gen x).length) cap') ∧ Own w' h' (n + (standA M gen x).length) cap' (xs ++ thr en (standA M gen x)) ∧ (h' = h ∨ w.heap.size ≤ h') ∧
        Has w' g 3 ((M.set x.toNat gen).map (Value.int .i64)) ∧ Near w w' g h := by
  by_cases hit : M[x.toNat]?.getD 0 = gen
  · refine (stand_keeps ps g h n cap m c x en gen M w hS hM hm hx0 hx1 hmm hit).mono ?_
    rintro e w' ⟨rfl, nq, rfl⟩
    have e1 : standA M gen x = [] := by unfold standA; rw [if_pos hit]
    rw [e1]
    refine ⟨h, cap, rfl, ?_, .inl rfl, ?_, ⟨rfl, rfl, rfl, Nat.le_refl _, fun _ _ _ _ => rfl⟩⟩
    · simpa [thr] using hO.kept (w' := w.drewN nq) rfl
    · rw [set_same M x.toNat gen (by omega) hit]; exact hM.drewN nq
  · refine (stand_adds ps g h n cap m c x en gen M xs w hS hM hm hx0 hx1 hmm hit hO hgh hpg hn).mono ?_
    rintro e w' ⟨h', cap', rfl, r1, r2, r3, r4⟩
    have e1 : standA M gen x = [x] := by unfold standA; rw [if_neg hit]
    rw [e1]
    exact ⟨h', cap', rfl, r1, r2, r3, r4⟩

set_option maxHeartbeats 400000 in
theorem stepsFor_any (ps tb : Nat) (start : Int) (fv cv jv : Value) (w : World) (hT : Table w tb start fv cv jv) :
    Calls Tryd.prog 16 #[.pointer (some ⟨ps, 0, none⟩), .pointer (some ⟨tb, 0, none⟩)] w fun e w' => e = .returned (.pointer none) ∧ w' = w := by
  have c1 := hT.eager
  clear hT
  go_enter Tryd.func16, Tryd.ntmps16
  go_wp2
  go_ret
  exact ⟨rfl, rfl⟩

/-- Blocks below B other than g are as they were. -/
structure Keep (B g : Nat) (w w' : World) : Prop where
  os : w'.os = w.os
  tape : w'.tape = w.tape
  output : w'.output = w.output
  size : w.heap.size ≤ w'.heap.size
  block : ∀ k, k < B → k ≠ g → w'.heap[k]? = w.heap[k]?
theorem Keep.refl (B g : Nat) (w : World) : Keep B g w w := ⟨rfl, rfl, rfl, Nat.le_refl _, fun _ _ _ => rfl⟩
theorem Keep.trans {B g : Nat} {a b c : World} (h : Keep B g a b) (k : Keep B g b c) : Keep B g a c :=
  ⟨k.os.trans h.os, k.tape.trans h.tape, k.output.trans h.output, Nat.le_trans h.size k.size, fun i hi hg => (k.block i hi hg).trans (h.block i hi hg)⟩
theorem Keep.of_near {B g h : Nat} {w w' : World} (h0 : Near w w' g h) (hB : B ≤ h) (hs : B ≤ w.heap.size) : Keep B g w w' :=
  ⟨h0.os, h0.tape, h0.output, h0.size, fun k hk hg => h0.block k (by omega) hg (by omega)⟩
theorem Keep.of_below {B g : Nat} {w w' : World} (h0 : Below B w w') : Keep B g w w' :=
  ⟨h0.os, h0.tape, h0.output, h0.size, fun k hk _ => h0.block k hk⟩
theorem Keep.setCell {B g : Nat} {w w' : World} (h0 : Keep B g w w') (a : Addr) (v : Value) (hB : B ≤ a.block) : Keep B g w (w'.setCell a v) :=
  ⟨h0.os, h0.tape, h0.output, by simp; exact h0.size, fun k hk hg => (heap_setCell_other w' a k v (by omega)).trans (h0.block k hk hg)⟩
theorem Keep.drewN {B g : Nat} {w w' : World} (h0 : Keep B g w w') (q : Nat) : Keep B g w (w'.drewN q) := ⟨h0.os, h0.tape, h0.output, h0.size, h0.block⟩
theorem Keep.row {B g : Nat} {w w' : World} {k : IntKind} {a : Option Addr} {zs : List Int} (h : Keep B g w w') (hr : Row w k a zs) (hq : ∀ q, a = some ⟨q, 0, none⟩ → q < B ∧ q ≠ g) : Row w' k a zs :=
  hr.kept fun q ha _ => h.block q (hq q ha).1 (hq q ha).2

/-- Where 'stepBack' stands: its three boxed parameters, the slice that it extends, the marks. -/
structure St (w W : World) (h0 N ps g h n cap : Nat) (y en : Int) (xs : List Value) (M : List Int) : Prop where
  bx0 : W.cell? ⟨N, 0, none⟩ = some (.pointer (some ⟨ps, 0, none⟩))
  bx1 : W.cell? ⟨N + 1, 0, none⟩ = some (.slice (some ⟨h, 0, none⟩) n cap)
  fz1 : W.frozen? ⟨N + 1, 0, none⟩ = false
  bx2 : W.cell? ⟨N + 2, 0, none⟩ = some (.int .i32 y)
  bx3 : W.cell? ⟨N + 2, 1, none⟩ = some (.int .i64 en)
  own : Own W h n cap xs
  mks : 0 < M.length → Has W g 3 (M.map (Value.int .i64))
  hh : h = h0 ∨ N + 3 ≤ h
  size : N + 3 ≤ W.heap.size
  keep : Keep h0 g w W
theorem St.drewN {w W : World} {h0 N ps g h n cap : Nat} {y en : Int} {xs : List Value} {M : List Int} (s : St w W h0 N ps g h n cap y en xs M) (q : Nat) : St w (W.drewN q) h0 N ps g h n cap y en xs M :=
  ⟨s.bx0, s.bx1, s.fz1, s.bx2, s.bx3, s.own.kept rfl, fun hm => (s.mks hm).drewN q, s.hh, s.size, s.keep.drewN q⟩
theorem St.step {w W W1 : World} {h0 N ps g h n cap h1 n1 cap1 : Nat} {y en : Int} {xs xs1 : List Value} {M M1 : List Int} (s : St w W h0 N ps g h n cap y en xs M) (hgN : g < h0) (hN : h0 < N)
    (o : Own W1 h1 n1 cap1 xs1) (hh : h1 = h ∨ W.heap.size ≤ h1) (hm : Has W1 g 3 (M1.map (Value.int .i64))) (nr : Near W W1 g h) :
    St w (W1.setCell ⟨N + 1, 0, none⟩ (.slice (some ⟨h1, 0, none⟩) n1 cap1)) h0 N ps g h1 n1 cap1 y en xs1 M1 := by
  have hs := s.size
  have h2 := s.hh
  have keepb : ∀ k, k = N ∨ k = N + 1 ∨ k = N + 2 → W1.heap[k]? = W.heap[k]? := fun k hk => nr.block k (by omega) (by omega) (by omega)
  have hne : h1 ≠ N + 1 := by omega
  have e1 : W1.cell? ⟨N + 1, 0, none⟩ = some (.slice (some ⟨h, 0, none⟩) n cap) := (World.cell?_of_block (keepb (N + 1) (by omega))).trans s.bx1
  refine ⟨?_, ?_, ?_, ?_, ?_, ?_, ?_, ?_, ?_, ?_⟩
  · exact (World.cell?_of_block (heap_setCell_other W1 _ N _ (by simp))).trans ((World.cell?_of_block (keepb N (by omega))).trans s.bx0)
  · exact World.cell?_setCell_same W1 _ _ e1
  · rw [World.frozen?_setCell]; exact (World.frozen?_of_block (keepb (N + 1) (by omega))).trans s.fz1
  · exact (World.cell?_of_block (heap_setCell_other W1 _ (N + 2) _ (by simp))).trans ((World.cell?_of_block (keepb (N + 2) (by omega))).trans s.bx2)
  · exact (World.cell?_of_block (heap_setCell_other W1 _ (N + 2) _ (by simp))).trans ((World.cell?_of_block (keepb (N + 2) (by omega))).trans s.bx3)
  · exact o.kept (heap_setCell_other W1 _ h1 _ hne)
  · intro _; exact hm.other _ _ (by simp; omega)
  · omega
  · simp; have := nr.size; omega
  · exact (s.keep.trans (Keep.of_near nr (by omega) (by omega))).setCell _ _ (by simp; omega)
end Go.Proofs.Qxb6613719aDoor
