import Derived.Test.Qxb6614828aLinks
namespace Go.Proofs.Qxb6614828a
open Go.RowKit
set_option linter.unusedVariables false
def ptr (e0 : Nat) (o : Option Nat) : Value := .pointer (o.map fun i => ⟨e0 + i, 0, none⟩)
/-- The six cells of entry i of the list. -/
def entC (e0 : Nat) (Q : List Nat) (i : Nat) (x : ByteArray × Int × Int) : List Value :=
  [.string x.1, .int .u64 x.2.1, .int .u64 x.2.2, .bool (decide (i ∈ Q)), ptr e0 (older none Q i), ptr e0 (newer Q i)]
/-- Tokens at block t with the map at block b; entry i of L at block e0 + i (the first m of them are put); K: which names are known; Q: the free ones, oldest first; fg: the highest forgotten token. -/
structure Tok (w : World) (b t e0 n : Nat) (L : Nat → ByteArray × Int × Int) (m : Nat) (K : List UInt8 → Option Nat) (Q : List Nat) (fg : Int) : Prop where
  map : KMap w b n (fun k => (K k).map (e0 + ·))
  tok : Has w t 57 [.map (some b), ptr e0 Q.head?, ptr e0 Q.getLast?, .int .i64 (Q.length : Int), .int .u64 fg]
  ent : ∀ i, i < m → Has w (e0 + i) 59 (entC e0 Q i (L i))
  bt : b < e0 ∧ t < e0 ∧ b ≠ t
  KL : ∀ k i, K k = some i → i < m ∧ k = kb (L i).1
  nodup : Q.Nodup
  QK : ∀ i, i ∈ Q → i < m ∧ K (kb (L i).1) = some i
theorem Tok.qlen {w : World} {b t e0 n m : Nat} {L : Nat → ByteArray × Int × Int} {K : List UInt8 → Option Nat} {Q : List Nat} {fg : Int} (h : Tok w b t e0 n L m K Q fg) : Q.length ≤ m :=
  nodup_le m Q h.nodup fun x hx => (h.QK x hx).1

set_option maxHeartbeats 400000 in
theorem newTokens_any (w : World) (L : Nat → ByteArray × Int × Int) :
    Calls Try.prog 15 #[] w fun e w' => e = .returned (.pointer (some ⟨w.heap.size + 1, 0, none⟩)) ∧
      Tok w' w.heap.size (w.heap.size + 1) (w.heap.size + 2) 0 L 0 (fun _ => none) [] 0 ∧ w'.heap.size = w.heap.size + 2 ∧ Below w.heap.size w w' := by
  have hmm := @run_makeMap Try.prog
  go_enter Try.func15, Try.ntmps15
  go_wp2
  go_ret
  refine ⟨?_, ?_, ?_, ?_⟩
  · rfl
  · refine ⟨KMap.keep (KMap.made w) (heap_alloc_old _ _ (by simp)), ⟨?_⟩, fun i hi => absurd hi (Nat.not_lt_zero _), ⟨by omega, by omega, by omega⟩, fun k i h => (by cases h), List.nodup_nil, fun i hi => (by cases hi)⟩
    have := heap_alloc_new (w.alloc (.map #[] 0)) (.cells #[.map (some w.heap.size), .pointer none, .pointer none, .int .i64 0, .int .u64 0] 57)
    rw [World.size_alloc] at this
    exact this
  · simp
  · exact ((Below.refl _ _).alloc (Nat.le_refl _) _).alloc (by simp) _
set_option maxHeartbeats 400000 in
theorem put_any (w : World) (b t e0 n m : Nat) (L : Nat → ByteArray × Int × Int) (K : List UInt8 → Option Nat) (fg : Int) (s : ByteArray) (la ve : Int)
    (T : Tok w b t e0 n L m K [] fg) (hm : e0 + m = w.heap.size) (hL : L m = (s, la, ve)) (hs : s.size ≤ maxLen) (hn : n < 10000) :
    Calls Try.prog 16 #[.pointer (some ⟨t, 0, none⟩), .string s, .int .u64 la, .int .u64 ve] w fun e w' => e = .returned (.tuple #[]) ∧
      Tok w' b t e0 (n + 1) L (m + 1) (put K (kb s) m) [] fg ∧ w'.heap.size = w.heap.size + 1 ∧ Below b w w' := by
  have c0 := T.tok.cell 0 _ rfl
  obtain ⟨w1, hw1⟩ : ∃ w1, w1 = w.alloc (.cells #[.string s, .int .u64 la, .int .u64 ve, .bool false, .pointer none, .pointer none] 59) := ⟨_, rfl⟩
  have M1 : KMap w1 b n (fun k => (K k).map (e0 + ·)) := T.map.keep (by rw [hw1]; exact heap_alloc_old _ _ T.map.lt)
  obtain ⟨w2, hrun, M2, hsz, hg⟩ := M1.put (by unfold maxLen; omega) s hs w.heap.size
  have hr2 := hrun
  rw [hw1] at hr2
  go_enter Try.func16, Try.ntmps16
  go_wp2
  go_end0
  have hb0 := T.bt
  have hs1 : w1.heap.size = w.heap.size + 1 := by rw [hw1]; simp
  have blk : ∀ k, k < w.heap.size → k ≠ b → w2.heap[k]? = w.heap[k]? := fun k hk hkb => by
    rw [hg.block k (by omega) (fun e => hkb (by cases e; rfl)), hw1]
    exact heap_alloc_old _ _ hk
  refine ⟨rfl, ⟨?_, ⟨?_⟩, ?_, T.bt, ?_, List.nodup_nil, fun i hi => (by cases hi)⟩, by omega, ⟨?_, ?_, ?_, by omega, fun k hk => blk k (by have := T.map.lt; omega) (by omega)⟩⟩
  · have e : (fun k => (put K (kb s) m k).map (e0 + ·)) = put (fun k => (K k).map (e0 + ·)) (kb s) w.heap.size := by
      funext k
      unfold put
      split
      · simp [hm]
      · rfl
    rw [e]; exact M2
  · rw [blk t T.tok.lt (fun e => hb0.2.2 e.symm)]; exact T.tok.blk
  · intro i hi
    by_cases hi' : i < m
    · exact ⟨by rw [blk (e0 + i) (by omega) (by omega)]; exact (T.ent i hi').blk⟩
    · obtain rfl : i = m := by omega
      refine ⟨?_⟩
      rw [hg.block (e0 + i) (by omega) (fun e => by cases e; omega), hw1, hm, heap_alloc_new, hL]
      rfl
  · intro k i h
    unfold put at h
    split at h
    · rename_i hk
      obtain rfl : m = i := by simpa using h
      exact ⟨by omega, by rw [hk, hL]⟩
    · have := T.KL k i h
      exact ⟨by omega, this.2⟩
  · rw [hg.os, hw1]; rfl
  · rw [hg.tape, hw1]; rfl
  · rw [hg.output, hw1]; rfl
end Go.Proofs.Qxb6614828a
