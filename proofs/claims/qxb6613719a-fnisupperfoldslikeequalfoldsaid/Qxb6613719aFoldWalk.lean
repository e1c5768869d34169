import Derived.Test.Qxb6613719aFoldParts2
namespace Go.Proofs.Qxb6613719a
open Go.RowKit

theorem low_up (b : Int) (h : upB b = true) : b + 32 = low b := by
  simp [upB] at h; simp [low, h]
theorem low_not (b : Int) (h : upB b = false) : b = low b := by
  simp [upB] at h; unfold low; rw [if_neg (by omega)]
theorem up_le (b : Int) (h : upB b = true) : b ≤ 90 := by
  simp [upB] at h; omega

theorem low_bd (b : Int) (h0 : 0 ≤ b) (h1 : b ≤ 255) : 0 ≤ low b ∧ low b ≤ 255 := by
  unfold low; split <;> omega
theorem strOf_get (ls : List Int) (i : Nat) (hi : i < (strOfNums ls).size) (hl : i < ls.length) (h0 : 0 ≤ ls[i]) (h1 : ls[i] ≤ 255) : ((strOfNums ls)[i].toNat : Int) = ls[i] := by
  have e : (strOfNums ls)[i] = UInt8.ofNat ls[i].toNat := by
    have h2 : i < ((ls.map fun n => UInt8.ofNat n.toNat).toArray).size := by simpa using hl
    have h3 : ((ls.map fun n => UInt8.ofNat n.toNat).toArray)[i]'h2 = UInt8.ofNat ls[i].toNat := by simp
    exact h3
  rw [e, UInt8.toNat_ofNat']
  omega
theorem str_low (zs ls : List Int) (n : Nat) (s : ByteArray) (hs : s = strOfNums ls) (hl : ls = (zs.take n).map low) (hz : ∀ i : Nat, 0 ≤ zs[i]?.getD 0 ∧ zs[i]?.getD 0 ≤ 255)
    (i : Nat) (h : i < s.size) : low (zs[i]?.getD 0) = (s[i].toNat : Int) := by
  subst hs
  have hi : i < ls.length := by rw [strOfNums_size] at h; exact h
  have hi2 : i < (zs.take n).length := by rw [hl, List.length_map] at hi; exact hi
  have hi3 : i < zs.length := by rw [List.length_take] at hi2; omega
  have hb := hz i
  rw [List.getElem?_eq_getElem hi3, Option.getD_some] at hb ⊢
  have hlo := low_bd _ hb.1 hb.2
  have e : ls[i] = low zs[i] := by subst hl; simp
  rw [strOf_get ls i h hi (by rw [e]; exact hlo.1) (by rw [e]; exact hlo.2), e]

set_option maxHeartbeats 400000 in
theorem bytes20_yes (a : Option Addr) (n cap : Nat) (hn : n ≤ 1048576) (w : World) :
    Calls Try.prog 20 #[.slice a n cap] w fun e w' => e = .returned (.bool true) ∧ w' = w := by
  have hd : decide ((1048576 : Int) < (n : Int)) = false := decide_eq_false (by omega)
  go_enter Try.func20, Try.ntmps20
  go_wp2
  go_ret
  exact ⟨rfl, rfl⟩
set_option maxHeartbeats 400000 in
theorem bytes20_no (a : Option Addr) (n cap : Nat) (hn : ¬ n ≤ 1048576) (w : World) :
    Calls Try.prog 20 #[.slice a n cap] w fun e w' => e = .returned (.bool false) ∧ w' = w := by
  have hd : decide ((1048576 : Int) < (n : Int)) = true := decide_eq_true (by omega)
  go_enter Try.func20, Try.ntmps20
  go_wp2
  go_ret
  exact ⟨rfl, rfl⟩

set_option maxHeartbeats 1000000 in
theorem fold_walk (x : Addr) (n cap : Nat) (zs : List Int) (w : World) (hn : n ≤ 1048576)
    (hzl : n ≤ zs.length)
    (hc : ∀ i, i < n → w.cell? (x.add i) = some (.int .u8 (zs.getD i 0)))
    (hz : ∀ i : Nat, 0 ≤ zs[i]?.getD 0 ∧ zs[i]?.getD 0 ≤ 255) :
    Calls Try.prog 8 #[.slice (some x) n cap] w fun e w' => e = .returned (.bool true) ∧ Below w.heap.size w w' := by
  obtain ⟨w1, r1, h1, s1, b1⟩ := make_has (P := Try.prog) w 22 5 (.int .u8 0) 1 n Try.underlying22 Try.info5 rfl (by omega) (by omega)
  obtain ⟨w2, r2, h2, s2, b2⟩ := copy_has (P := Try.prog) w1 22 22 3 5 Try.underlying22 Try.size5 w.heap.size (some x) n n cap _ h1 ((zs.take n).map (Value.int .u8)) (by simp; omega) (by simp) (src_cells hzl hc b1) (ints_oneCell _ _)
  obtain ⟨w3, r3, h3, s3, b3⟩ := make_has (P := Try.prog) w2 22 5 (.int .u8 0) 1 n Try.underlying22 Try.info5 rfl (by omega) (by omega)
  obtain ⟨ls, hls⟩ : ∃ ls, ls = (zs.take n).map low := ⟨_, rfl⟩
  have hlen : ls.length = n := by rw [hls]; simp; omega
  rw [s2, s1] at r3 h3 s3 b3
  have B3 : Below w.heap.size w w3 := (b1.trans (b2.trans (b3.mono (by omega))))
  have H2 : Has w3 w.heap.size 5 ((zs.take n).map (Value.int .u8)) := h2.below b3 (by omega)
  rw [← hlen, ← lowRow_zero] at h3
  obtain ⟨cs, hcs⟩ : ∃ cs, cs = (zs.take n).map (Value.int .u8) := ⟨_, rfl⟩
  rw [← hcs] at H2
  have HCS : Hid (cs = (zs.take n).map (Value.int .u8)) := hcs
  have HL : Hid (ls = (zs.take n).map low) := hls
  have HLn : Hid (ls.length = n) := hlen
  have HZ : Hid (∀ i : Nat, 0 ≤ zs[i]?.getD 0 ∧ zs[i]?.getD 0 ≤ 255) := hz
  have hd : decide ((1048576 : Int) < (n : Int)) = false := decide_eq_false (by omega)
  clear hls hlen hz hc b1 b2 b3 h1 h2 s1 s2 hcs
  go_enter Try.func8, Try.ntmps8
  go_wp2_with (first | (go_at_call 20; refine (bytes20_yes _ _ _ hn _).mono ?_; rintro e w' ⟨rfl, hw'⟩; rw [hw']; clear hw' w'))
  go_loopw [5] (fun i wr => ∃ k : Nat, k ≤ n ∧ i = .int .i64 k ∧ Has wr w.heap.size 5 cs ∧ Has wr (w.heap.size + 1) 5 (lowRow ls k) ∧ Below w.heap.size w wr) (fun i _ => n - (intOf i).toNat)
  case atStart => exact ⟨0, Nat.zero_le _, rfl, H2, h3, B3⟩
  case round =>
    clear r1 r2 r3 H2 h3 B3 s3
    obtain ⟨k, hk, rfl, H2, H3, B3⟩ := hrel
    by_cases hlt : k < n
    · have hli : (k : Int) < (n : Int) := by omega
      have hck : wr.cell? ⟨w.heap.size, k, none⟩ = some (.int .u8 (zs[k]?.getD 0)) := H2.cell k _ (by rw [HCS.out, List.getElem?_map, List.getElem?_take_of_lt hlt, List.getElem?_eq_getElem (by omega)]; simp)
      have hf := H3.free k
      have hco : wr.cell? ⟨w.heap.size + 1, k, none⟩ = some (.int .u8 0) := H3.cell k _ (by
        have := HLn.out
        unfold lowRow
        rw [List.getElem?_append_right (by simp; omega), List.getElem?_replicate, if_pos (by simp; omega)])
      have hz1 := (HZ.out k).1
      have hz2 := (HZ.out k).2
      have hset : (lowRow ls k).set k (.int .u8 (low (zs[k]?.getD 0))) = lowRow ls (k + 1) := by
        have h1 := HLn.out
        have h2 := HL.out
        rw [← lowRow_set ls k (by omega)]
        congr 2
        rw [List.getElem?_eq_getElem (by omega)]
        simp [h2]
      have HS : Hid ((lowRow ls k).set k (.int .u8 (low (zs[k]?.getD 0))) = lowRow ls (k + 1)) := hset
      clear hset
      have hBs : Below w.heap.size w (wr.setCell ⟨w.heap.size + 1, k, none⟩ (.int .u8 (low (zs[k]?.getD 0)))) := B3.setCell (by simp) _
      have hst := H3.store k (.int .u8 (low (zs[k]?.getD 0)))
      have hso := H2.other ⟨w.heap.size + 1, k, none⟩ (.int .u8 (low (zs[k]?.getD 0))) (by simp)
      cases hup : upB (zs[k]?.getD 0)
      · have hlo := low_not _ hup
        rw [← hlo] at hst hso hBs HS
        have hst' := hst.eqL HS.out
        clear hlo hst
        go_wp2_with (first | (go_at_call 18; refine (zzIsUpper_any _ _).mono ?_; rintro e w' ⟨rfl, hw'⟩; rw [hw']; clear hw' w'))
        go_roundw
        case rel => exact ⟨k + 1, by omega, by go_num, hso, hst', hBs⟩
        case measure => simp [intOf]; omega
      · have hle := up_le _ hup
        have hlo := low_up _ hup
        rw [← hlo] at hst hso hBs HS
        have hst' := hst.eqL HS.out
        clear hlo hst
        go_wp2_with (first | (go_at_call 18; refine (zzIsUpper_any _ _).mono ?_; rintro e w' ⟨rfl, hw'⟩; rw [hw']; clear hw' w'))
        go_roundw
        case rel => exact ⟨k + 1, by omega, by go_num, hso, hst', hBs⟩
        case measure => simp [intOf]; omega
    · obtain rfl : k = n := by omega
      have hlen := HLn.out
      rw [← hlen, lowRow_all] at H3
      have hcv := run_convert_bytes_arg (P := Try.prog) wr 22 5 Try.underlying22 Try.underlying5 (w.heap.size + 1) 0 k k ls hlen (fun i hi => by
        rw [Nat.zero_add]
        exact H3.cell i _ (by rw [List.getElem?_map, List.getElem?_eq_getElem (by omega)]; simp [List.getD_eq_getElem?_getD, List.getElem?_eq_getElem (show i < ls.length by omega)])) 9 Try.underlying9
      obtain ⟨s, hs⟩ : ∃ s, s = strOfNums ls := ⟨_, rfl⟩
      rw [← hs] at hcv
      have hsz : s.size = k := by rw [hs, strOfNums_size]; exact hlen
      have HE := zzEqualFold_any w.heap.size 0 k zs s wr (by omega) (fun i hi => by
        rw [Nat.zero_add]
        exact H2.cell i _ (by rw [HCS.out, List.getElem?_map, List.getElem?_take_of_lt (by omega), List.getElem?_eq_getElem (by omega)]; simp [List.getD_eq_getElem?_getD, List.getElem?_eq_getElem (show i < zs.length by omega)])) HZ.out (fun i hi => str_low zs ls k s hs HL.out HZ.out i hi)
      rw [hsz] at HE
      clear hs hsz hlen
      go_wp2_with (first | (go_at_call 21; refine HE.mono ?_; rintro e w' ⟨rfl, hw'⟩))
      go_ret
      refine ⟨rfl, ?_⟩
      obtain ⟨nq, rfl⟩ := hw'
      exact below_drewN' B3 nq

/-- the nil slice -/
theorem strOf_nil : strOfNums [] = ByteArray.empty := rfl
set_option maxHeartbeats 400000 in
theorem zzEqualFold_nil (w : World) :
    Calls Try.prog 21 #[.slice none 0 0, .string (strOfNums [])] w fun e w' => e = .returned (.bool true) ∧ w' = w := by
  have hs : (strOfNums []).size = 0 := rfl
  go_enter Try.func21, Try.ntmps21
  go_wp2_with (first | (go_at_call 33; go_in) | (go_at_call 43; go_in))
  refine wp_loop_rounds 1 ?_
  rw [rounds_succ]
  go_wp2
  go_ret
  exact ⟨rfl, rfl⟩

set_option maxHeartbeats 400000 in
theorem fold_nil (w : World) :
    Calls Try.prog 8 #[.slice none 0 0] w fun e w' => e = .returned (.bool true) ∧ Below w.heap.size w w' := by
  obtain ⟨w3, r3, h3, s3, b3⟩ := make_has (P := Try.prog) w 22 5 (.int .u8 0) 1 0 Try.underlying22 Try.info5 rfl (by omega) (by omega)
  have hcv := run_convert_bytes_arg (P := Try.prog) w3 22 5 Try.underlying22 Try.underlying5 w.heap.size 0 0 0 [] rfl (fun i hi => by omega) 9 Try.underlying9
  simp only [Int.natCast_zero] at r3
  go_enter Try.func8, Try.ntmps8
  go_wp2_with (first | (go_at_call 20; refine (bytes20_yes _ _ _ (by omega) _).mono ?_; rintro e w' ⟨rfl, hw'⟩; rw [hw']; clear hw' w'))
  refine wp_loop_rounds 1 ?_
  rw [rounds_succ]
  go_wp2_with (first | (go_at_call 21; refine (zzEqualFold_nil _).mono ?_; rintro e w' ⟨rfl, hw'⟩; rw [hw']; clear hw' w'))
  go_ret
  exact ⟨rfl, b3⟩

set_option maxHeartbeats 400000 in
theorem fold_big (a : Option Addr) (n cap : Nat) (hn : ¬ n ≤ 1048576) (w : World) :
    Calls Try.prog 8 #[.slice a n cap] w fun e w' => e = .returned (.bool true) ∧ Below w.heap.size w w' := by
  go_enter Try.func8, Try.ntmps8
  go_wp2_with (first | (go_at_call 20; refine (bytes20_no _ _ _ hn _).mono ?_; rintro e w' ⟨rfl, hw'⟩; rw [hw']; clear hw' w'))
  go_ret
  exact ⟨rfl, Below.refl _ _⟩
end Go.Proofs.Qxb6613719a
