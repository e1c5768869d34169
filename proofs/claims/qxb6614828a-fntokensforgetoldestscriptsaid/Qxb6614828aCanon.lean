import Derived.Test.Qxb6614828aHeads
namespace Go.Proofs.Qxb6614828a
open Go.RowKit
set_option linter.unusedVariables false
/-- The last of the entries below m that bears entry i's name (i itself at the least). -/
def canonTo (L : Nat → ByteArray × Int × Int) (i : Nat) : Nat → Nat
  | 0 => i
  | m + 1 => if i < m ∧ (L m).1 = (L i).1 then m else canonTo L i m
theorem canonTo_start (L : Nat → ByteArray × Int × Int) (i : Nat) : ∀ m, m ≤ i + 1 → canonTo L i m = i
  | 0, _ => rfl
  | m + 1, h => by
    rw [canonTo, if_neg (by omega)]
    exact canonTo_start L i m (by omega)
def canonC (L : Nat → ByteArray × Int × Int) (n k : Nat) : List Value := (List.range n).map fun i => if i < k then .int .i64 (canonTo L i n : Int) else .int .i64 0
theorem canonC_zero (L : Nat → ByteArray × Int × Int) (n : Nat) : canonC L n 0 = List.replicate n (.int .i64 0) := by
  unfold canonC
  apply List.ext_getElem?
  intro j
  rcases Nat.lt_or_ge j n with h | h
  · simp [h]
  · simp [Nat.not_lt.2 h]
theorem canonC_at (L : Nat → ByteArray × Int × Int) (n k j : Nat) (h : j < n) : (canonC L n k)[j]? = some (if j < k then .int .i64 (canonTo L j n : Int) else .int .i64 0) := by
  unfold canonC; simp [h]
theorem canonC_set (L : Nat → ByteArray × Int × Int) (n k : Nat) (h : k < n) : (canonC L n k).set k (.int .i64 (canonTo L k n : Int)) = canonC L n (k + 1) := by
  apply List.ext_getElem?
  intro j
  rw [List.getElem?_set]
  rcases Nat.lt_or_ge j n with hj | hj
  · rw [canonC_at L n k j hj, canonC_at L n (k + 1) j hj]
    by_cases hk : k = j
    · subst hk; simp [canonC, h]
    · rw [if_neg hk]
      by_cases h1 : j < k
      · rw [if_pos h1, if_pos (by omega)]
      · rw [if_neg h1, if_neg (by omega)]
  · have e1 : ∀ k', (canonC L n k')[j]? = none := fun k' => by rw [List.getElem?_eq_none]; simp [canonC]; omega
    rw [e1, e1]
    by_cases hk : k = j
    · omega
    · simp [hk]
theorem Ents.below {w w' : World} {a : Option Addr} {L : Nat → ByteArray × Int × Int} {n B : Nat} (E : Ents w a L n) (hb : Below B w w') (hB : ∀ b off, a = some ⟨b, off, none⟩ → 0 < n → b < B) : Ents w' a L n :=
  ⟨fun i hi => by
    obtain ⟨b, off, ha, h0, h1, h2⟩ := E.look i hi
    have hlt := hB b off ha (by omega)
    exact ⟨b, off, ha, (World.cell?_of_block (hb.block b hlt)).trans h0, (World.cell?_of_block (hb.block b hlt)).trans h1, (World.cell?_of_block (hb.block b hlt)).trans h2⟩, E.sz⟩
theorem Ents.lt {w : World} {a : Option Addr} {L : Nat → ByteArray × Int × Int} {n : Nat} (E : Ents w a L n) : ∀ b off, a = some ⟨b, off, none⟩ → 0 < n → b < w.heap.size := fun b off ha h0 => by
  obtain ⟨b', off', ha', h, _⟩ := E.look 0 h0
  rw [ha] at ha'
  cases ha'
  exact block_lt_of_cell h
theorem kb_inj {a b : ByteArray} (h : kb a = kb b) : a = b := WideShapes.bytes_inj h
theorem str_eq {a b : ByteArray} (h : a = b) : (a.toList == b.toList) = true := by subst h; simp
theorem str_ne {a b : ByteArray} (h : a ≠ b) : (a.toList == b.toList) = false := by
  rw [beq_eq_false_iff_ne]
  intro e
  rw [ByteArray.toList_eq, ByteArray.toList_eq] at e
  exact h (WideShapes.bytes_inj e)
theorem info3 : (Try.prog.info? 3).map (fun i => (i.zero, i.size, i.bytes)) = some (some (.int .i64 0), 1, 8) := by kernel_rfl
set_option maxHeartbeats 2000000 in
theorem canonical_any (a : Option Addr) (n c : Nat) (L : Nat → ByteArray × Int × Int) (w : World) (E : Ents w a L n) (hn : n ≤ 4096) :
    Calls Try.prog 14 #[.slice a n c] w fun e w' => e = .returned (.slice (some ⟨w.heap.size, 0, none⟩) n n) ∧ Has w' w.heap.size 3 (canonC L n n) ∧ w'.heap.size = w.heap.size + 1 ∧ Below w.heap.size w w' := by
  obtain ⟨w1, r1, h1, s1, b1⟩ := make_has (P := Try.prog) w 36 3 (.int .i64 0) 8 n Try.underlying36 info3 rfl (by omega) (by omega)
  have HE : Hid (Ents w a L n) := E
  clear E
  go_enter Try.func14, Try.ntmps14
  go_wp2_with fail
  go_loopw [5, 6, 7] (fun i x y wr => ∃ k : Nat, k ≤ n ∧ i = .int .i64 k ∧ Has wr w.heap.size 3 (canonC L n k) ∧ wr.heap.size = w.heap.size + 1 ∧ Below w.heap.size w wr) (fun i x y _ => n - (intOf i).toNat)
  case atStart => exact ⟨0, Nat.zero_le _, rfl, by rw [canonC_zero]; exact h1, s1, b1⟩
  case round =>
    clear h1 b1 r1 s1
    obtain ⟨k, hk, rfl, H, hz, B⟩ := hrel
    by_cases hlt : k < n
    · have hli : (k : Int) < (n : Int) := by omega
      go_wp2_with fail
      go_loopw [6, 7] (fun x y wi => ∃ j : Nat, k + 1 ≤ j ∧ j ≤ n ∧ y = .int .i64 j ∧ x = .int .i64 (canonTo L k j : Int) ∧ Has wi w.heap.size 3 (canonC L n k) ∧ wi.heap.size = w.heap.size + 1 ∧ Below w.heap.size w wi) (fun x y _ => n - (intOf y).toNat)
      case atStart => exact ⟨k + 1, Nat.le_refl _, by omega, by go_num, by rw [canonTo_start L k (k + 1) (Nat.le_refl _)], H, hz, B⟩
      case round =>
        clear H hz B
        obtain ⟨j, hj0, hj, rfl, rfl, H, hz, B⟩ := hrel
        by_cases hlj : j < n
        · have hji : (j : Int) < (n : Int) := by omega
          have E := HE.out.below B HE.out.lt
          obtain ⟨b, off, rfl, e0, _, _⟩ := E.look k hlt
          obtain ⟨b', off', hb', e1, _, _⟩ := E.look j hlj
          cases hb'
          obtain ⟨x1, hx1⟩ : ∃ x, x = (L k).1 := ⟨_, rfl⟩
          obtain ⟨x2, hx2⟩ : ∃ x, x = (L j).1 := ⟨_, rfl⟩
          rw [← hx1] at e0
          rw [← hx2] at e1
          have HX : Hid (x1 = (L k).1 ∧ x2 = (L j).1) := ⟨hx1, hx2⟩
          clear hx1 hx2 E
          by_cases heq : x2 = x1
          · have HEQ : Hid (x2 = x1) := heq
            have d : (x2.toList == x1.toList) = true := str_eq heq
            clear heq
            go_wp2_with fail
            go_quiet (fail)
            go_wp2_with fail
            go_roundw
            case rel =>
              refine ⟨j + 1, by omega, by omega, by go_num, ?_, H.drewN _, hz, below_drewN' B _⟩
              rw [canonTo, if_pos ⟨by omega, by rw [← HX.out.1, ← HX.out.2]; exact HEQ.out⟩]
            case measure => simp [intOf]; omega
          · have HEQ : Hid (x2 ≠ x1) := heq
            have d : (x2.toList == x1.toList) = false := str_ne heq
            clear heq
            go_wp2_with fail
            go_quiet (fail)
            go_wp2_with fail
            go_roundw
            case rel =>
              refine ⟨j + 1, by omega, by omega, by go_num, ?_, H.drewN _, hz, below_drewN' B _⟩
              rw [canonTo, if_neg (fun h => HEQ.out (by rw [HX.out.1, HX.out.2]; exact h.2))]
            case measure => simp [intOf]; omega
        · obtain rfl : j = n := by omega
          have ck := H.cell k _ (canonC_at L j k k hlt)
          have fk := H.free k
          go_wp2_with fail
          go_roundw
          case rel =>
            refine ⟨k + 1, by omega, by go_num, ?_, by simp [hz], B.setCell (Nat.le_refl _) _⟩
            rw [← canonC_set L j k hlt]
            exact H.store k _
          case measure => simp [intOf]; omega
    · obtain rfl : k = n := by omega
      go_wp2_with fail
      go_ret
      exact ⟨rfl, H, hz, B⟩
end Go.Proofs.Qxb6614828a
