import Derived.Test.Qxb6613719aDoorParts
import Derived.BigRegion
namespace Go.Proofs.Qxb6613719aDoor
open Go.RowKit

theorem Tryd.info60 : (Tryd.prog.info? 60).map (fun i => (i.zero, i.size, i.bytes)) = some (some (.agg #[.int .i32 0, .int .i64 0]), 2, 16) := by kernel_rfl

/-- A slice of threads (two cells each) at the head of a block of the call's own: its first n threads are the cells xs. -/
structure Own (w : World) (h n cap : Nat) (xs : List Value) : Prop where
  len : xs.length = n * 2
  le : n ≤ cap
  max : cap ≤ maxLen
  blk : ∃ cur, w.heap[h]? = some (.cells cur 60 (0, 0)) ∧ cur.size = cap * 2 ∧ cur.toList.take (n * 2) = xs
theorem Own.lt {w : World} {h n cap : Nat} {xs : List Value} (o : Own w h n cap xs) : h < w.heap.size := by
  obtain ⟨cur, hb, _⟩ := o.blk
  rcases Nat.lt_or_ge h w.heap.size with h' | h'
  · exact h'
  · rw [Array.getElem?_eq_none h'] at hb; cases hb
theorem Own.kept {w w' : World} {h n cap : Nat} {xs : List Value} (o : Own w h n cap xs) (hk : w'.heap[h]? = w.heap[h]?) : Own w' h n cap xs :=
  ⟨o.len, o.le, o.max, by rw [hk]; exact o.blk⟩
theorem Own.cell {w : World} {h n cap : Nat} {xs : List Value} (o : Own w h n cap xs) (j : Nat) (u : Value) (hj : xs[j]? = some u) : w.cell? ⟨h, j, none⟩ = some u := by
  obtain ⟨cur, hb, _, ht⟩ := o.blk
  rw [cell_of_row w h j _ 60 (0, 0) hb]
  rw [← ht] at hj
  have hj' : j < n * 2 := by
    rcases Nat.lt_or_ge j (n * 2) with h | h
    · exact h
    · rw [List.getElem?_eq_none (by simp; omega)] at hj; cases hj
  rw [List.getElem?_take_of_lt hj'] at hj
  simpa using hj
theorem Own.owns {w : World} {h n cap : Nat} {xs : List Value} (o : Own w h n cap xs) : w.ownsRow h 60 2 (.slice (some ⟨h, 0, none⟩) n cap) n xs := by
  obtain ⟨cur, hb, hs, ht⟩ := o.blk
  exact ⟨o.len, .inr ⟨h, cap, cur, rfl, Nat.le_refl _, hb, o.le, o.max, hs, ht⟩⟩
theorem own_of {w : World} {base n : Nat} {v : Value} {xs : List Value} (h : w.ownsRow base 60 2 v n xs) (hn : 0 < n) : ∃ g cap, v = .slice (some ⟨g, 0, none⟩) n cap ∧ base ≤ g ∧ Own w g n cap xs := by
  rcases h.2 with ⟨_, h0⟩ | ⟨g, cap, cur, hv, hb, hg, hle, hm, hs, ht⟩
  · omega
  · exact ⟨g, cap, hv, hb, ⟨h.1, hle, hm, cur, hg, hs, ht⟩⟩

/-- 'append(here, thread{..})' at a slice of the call's own: within its row, or in a new one. -/
theorem wpList_append_th {w : World} {ops : Array Oper} {rest : List Oper} {o : Oper} {a : Act} {Q : Exit → Act → World → Prop}
    (hg : o.guard = none) (s x : Operand) (hop : o.op = Op.call { callee := Callee.builtin Builtin.append, args := #[s, x], argTypes := #[51, 51] })
    (h n cap : Nat) (xs : List Value) (hs : a.eval s = .slice (some ⟨h, 0, none⟩) n cap) (ad : Addr) (news : List Value) (hx : a.eval x = .slice (some ad) 1 1)
    (hown : Own w h n cap xs) (hn : news.length = 2) (hc : ∀ j u, news[j]? = some u → w.cell? (ad.add j) = some u) (h1c : ∀ u ∈ news, u.oneCell' = true) (hb : n ≤ 1048576)
    (hK : ∀ h' cap' w', Own w' h' (n + 1) cap' (xs ++ news) → (h' = h ∨ w.heap.size ≤ h') → w.grownBy w' (some h) → wpList Tryd.prog ops Q rest (a.put o.dst (.slice (some ⟨h', 0, none⟩) (n + 1) cap')) w') :
    wpList Tryd.prog ops Q (o :: rest) a w := by
  refine wpList_plain hg fun K hK' => ?_
  obtain ⟨i, hi, hz0, hz1, hz2⟩ := info_parts Tryd.info60
  by_cases hroom : n + 1 ≤ cap
  · obtain ⟨cur, hblk, hcs, ht⟩ := hown.blk
    have hr := run_append_room (P := Tryd.prog) w 51 o.type 60 i Tryd.underlying51 hi h n cap cur hblk ad 1 1 news (by rw [hn, hz1]) hc h1c hroom (by rw [hn, hz1, hcs]; omega)
    rw [hz1, ht, hn] at hr
    have hh := hK h cap (w.setRow h (xs ++ news ++ cur.toList.drop (n * 2 + 2)).toArray) ⟨by rw [List.length_append, hown.len, hn]; omega, hroom, hown.max, (xs ++ news ++ cur.toList.drop (n * 2 + 2)).toArray, setRow_heap w h cur _ 60 _ hblk, by
        simp only [List.size_toArray, List.length_append, List.length_drop, Array.length_toList, hown.len, hn]; omega, by
        have hl : (n + 1) * 2 = (xs ++ news).length := by rw [List.length_append, hown.len, hn]; omega
        rw [hl]
        exact List.take_left⟩ (.inl rfl) ⟨rfl, rfl, rfl, by simp, fun k _ hk => setRow_other w h k _ (fun e => hk (by rw [e]))⟩
    unfold Oper.wp
    simp [execOp, hop, resolve, invoke, builtin, hs, hx, hr, Result.andThen]
    exact hK' _ _ (by simpa using hh)
  · obtain ⟨v', w', hr, ho, hgr⟩ := run_append_arg_grows (P := Tryd.prog) w 51 o.type 60 i (.agg #[.int .i32 0, .int .i64 0]) 2 16 Tryd.underlying51 hi hz0 hz1 hz2 rfl (by decide) ⟨h, 0, none⟩ n cap xs hown.len
      (fun j u hj => by rw [addr_add, Nat.zero_add]; exact hown.cell j u hj) ad 1 1 news hn hc (by omega) (by unfold maxLen; omega) (by omega)
    obtain ⟨g, cap', rfl, hbase, hown'⟩ := own_of ho (by omega)
    have hh := hK g cap' w' hown' (.inr hbase) ⟨hgr.os, hgr.tape, hgr.output, hgr.size, fun k hk _ => hgr.block k hk (by simp)⟩
    unfold Oper.wp
    simp [execOp, hop, resolve, invoke, builtin, hs, hx, hr, Result.andThen]
    exact hK' _ _ hh

set_option linter.unusedVariables false
set_option maxHeartbeats 400000 in
theorem stand_keeps (ps g h n cap : Nat) (m c : Nat) (x en gen : Int) (M : List Int) (w : World) (hS : Search w ps (.slice (some ⟨g, 0, none⟩) m c) gen)
    (hM : Has w g 3 (M.map (Value.int .i64))) (hm : M.length = m) (hx0 : 0 ≤ x) (hx1 : x < m) (hmm : m ≤ 16384) (hit : M[x.toNat]?.getD 0 = gen) :
    Calls Tryd.prog 18 #[.pointer (some ⟨ps, 0, none⟩), .slice (some ⟨h, 0, none⟩) n cap, .int .i32 x, .int .i64 en] w fun e w' =>
      e = .returned (.slice (some ⟨h, 0, none⟩) n cap) ∧ ∃ nq, w' = w.drewN nq := by
  have c1 := hS.marks
  have c2 := hS.gener
  have c3 : w.cell? ⟨g, x.toNat, none⟩ = some (.int .i64 gen) := hM.cell _ _ (by rw [List.getElem?_map, getD_some (show x.toNat < M.length by omega), hit]; rfl)
  have hd : (x : Int) < (m : Int) := hx1
  clear hS hM hit hm
  go_enter Tryd.func18, Tryd.ntmps18
  go_wp2
  go_quiet (fail)
  go_wp2
  go_ret
  exact ⟨rfl, nq, rfl⟩

/-- What 'stand' leaves where it stands: blocks other than the marks and the slice's own are as they were. -/
structure Near (w w' : World) (g h : Nat) : Prop where
  os : w'.os = w.os
  tape : w'.tape = w.tape
  output : w'.output = w.output
  size : w.heap.size ≤ w'.heap.size
  block : ∀ k, k < w.heap.size → k ≠ g → k ≠ h → w'.heap[k]? = w.heap[k]?

theorem heap_W (w : World) (q g j k : Nat) (v : Value) (o : Obj) (hk : k < w.heap.size) (hkg : k ≠ g) : (((w.drewN q).setCell ⟨g, j, none⟩ v).alloc o).heap[k]? = w.heap[k]? := by
  rw [Below.heap_alloc _ _ _ (by simpa using hk), heap_setCell_other _ _ _ _ hkg]
  rfl
theorem size_W (w : World) (q : Nat) (a : Addr) (v : Value) : ((w.drewN q).setCell a v).heap.size = w.heap.size := by simp
theorem stand_close {w w' : World} {g h j q : Nat} {v : Value} {o : Obj} {L : List Value} (hM : Has w g 3 L) (hgh : g ≠ h)
    (hgr : (((w.drewN q).setCell ⟨g, j, none⟩ v).alloc o).grownBy w' (some h)) : Has w' g 3 (L.set j v) ∧ Near w w' g h := by
  have hg := hM.lt
  have h1 : Has ((w.drewN q).setCell ⟨g, j, none⟩ v) g 3 (L.set j v) := (hM.drewN q).store j v
  have h2 : Has (((w.drewN q).setCell ⟨g, j, none⟩ v).alloc o) g 3 (L.set j v) := ⟨by rw [Below.heap_alloc _ _ _ (by simpa using hg)]; exact h1.blk⟩
  refine ⟨⟨by rw [hgr.block g (by simp; omega) (by intro e; exact hgh (Option.some.inj e))]; exact h2.blk⟩, ⟨hgr.os, hgr.tape, hgr.output, ?_, ?_⟩⟩
  · have := hgr.size
    simp at this
    omega
  · intro k hk hkg hkh
    rw [hgr.block k (by simp; omega) (by intro e; exact hkh (Option.some.inj e)), heap_W w q g j k v o hk hkg]

set_option maxHeartbeats 1000000 in
theorem stand_adds (ps g h n cap : Nat) (m c : Nat) (x en gen : Int) (M : List Int) (xs : List Value) (w : World) (hS : Search w ps (.slice (some ⟨g, 0, none⟩) m c) gen)
    (hM : Has w g 3 (M.map (Value.int .i64))) (hm : M.length = m) (hx0 : 0 ≤ x) (hx1 : x < m) (hmm : m ≤ 16384) (hit : ¬ M[x.toNat]?.getD 0 = gen)
    (hO : Own w h n cap xs) (hgh : g ≠ h) (hpg : ps ≠ g) (hn : n ≤ 1048576) :
    Calls Tryd.prog 18 #[.pointer (some ⟨ps, 0, none⟩), .slice (some ⟨h, 0, none⟩) n cap, .int .i32 x, .int .i64 en] w fun e w' =>
      ∃ h' cap', e = .returned (.slice (some ⟨h', 0, none⟩) (n + 1) cap') ∧ Own w' h' (n + 1) cap' (xs ++ [.int .i32 x, .int .i64 en]) ∧ (h' = h ∨ w.heap.size ≤ h') ∧
        Has w' g 3 ((M.set x.toNat gen).map (Value.int .i64)) ∧ Near w w' g h := by
  have c1 := hS.marks
  have c2 := hS.gener
  obtain ⟨mx, hmx⟩ : ∃ mx, mx = M[x.toNat]?.getD 0 := ⟨_, rfl⟩
  have c3 : w.cell? ⟨g, x.toNat, none⟩ = some (.int .i64 mx) := hM.cell _ _ (by rw [List.getElem?_map, getD_some (show x.toNat < M.length by omega), ← hmx]; rfl)
  have f3 := hM.free x.toNat
  have hd : (x : Int) < (m : Int) := hx1
  rw [← hmx] at hit
  have hne : (mx == gen) = false := by rw [beq_eq_false_iff_ne]; exact hit
  have d1 : ps ≠ g := hpg
  clear hS hit hm hmx
  go_enter Tryd.func18, Tryd.ntmps18
  go_wp2
  go_quiet (fail)
  go_wp2
  go_region
  go_wp2_with (at_builtin; refine wpList_append_th rfl (.tmp 32) (.tmp 36) rfl h n cap xs rfl ⟨w.heap.size, 0, none⟩ [.int .i32 x, .int .i64 en] rfl (hO.kept (heap_W w _ g _ h _ _ hO.lt (Ne.symm hgh))) rfl ?_ ?_ hn ?_)
  · intro j u hj
    rw [addr_add, Nat.zero_add]
    match j, hj with
    | 0, hj => simp at hj; subst hj; rw [World.cell?_alloc_at _ _ _ _ (size_W w _ _ _).symm]; rfl
    | 1, hj => simp at hj; subst hj; rw [World.cell?_alloc_at _ _ _ _ (size_W w _ _ _).symm]; rfl
  · intro u hu
    simp at hu
    rcases hu with rfl | rfl <;> rfl
  · intro h' cap' w' ho hh hg
    obtain ⟨R1, R2⟩ := stand_close hM hgh hg
    clear hg
    go_wp2
    go_ret
    refine ⟨h', cap', rfl, ho, ?_, ?_, R2⟩
    · rcases hh with hh | hh
      · exact .inl hh
      · right; omega
    · rw [List.map_set]; exact R1
end Go.Proofs.Qxb6613719aDoor
