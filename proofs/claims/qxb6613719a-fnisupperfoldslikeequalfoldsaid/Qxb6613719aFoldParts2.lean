import Derived.Test.Qxb6613719aFoldParts
import Derived.Laws.BytesArg
namespace Go.Proofs.Qxb6613719a
open Go.RowKit
theorem Try.info5 : (Try.prog.info? 5).map (fun i => (i.zero, i.size, i.bytes)) = some (some (.int .u8 0), 1, 1) := by kernel_rfl
theorem Try.size5 : (Try.prog.info? 5).map (·.size) = some 1 := by kernel_rfl

set_option maxHeartbeats 400000 in
theorem zzEqualFold_any (b off cap : Nat) (zs : List Int) (s : ByteArray) (w : World) (hn : s.size ≤ 1048576)
    (hc : ∀ i, i < s.size → w.cell? ⟨b, off + i, none⟩ = some (.int .u8 (zs.getD i 0)))
    (hz : ∀ i : Nat, 0 ≤ zs[i]?.getD 0 ∧ zs[i]?.getD 0 ≤ 255)
    (hlow : ∀ (i : Nat) (h : i < s.size), low (zs[i]?.getD 0) = (s[i].toNat : Int)) :
    Calls Try.prog 21 #[.slice (some ⟨b, off, none⟩) s.size cap, .string s] w fun e w' => e = .returned (.bool true) ∧ ∃ nq, w' = w.drewN nq := by
  have H := hasPrefixFold_any b off cap zs s w hn hc hz hlow
  clear hc hz hlow
  go_enter Try.func21, Try.ntmps21
  go_wp2_with (first
    | (go_at_call 33; go_in)
    | (go_at_call 43; refine H.mono ?_; rintro e w' ⟨rfl, hw'⟩))
  go_ret
  exact ⟨rfl, hw'⟩

def lowRow (ls : List Int) (k : Nat) : List Value := (ls.take k).map (Value.int .u8) ++ List.replicate (ls.length - k) (.int .u8 0)
theorem lowRow_zero (ls : List Int) : lowRow ls 0 = List.replicate ls.length (.int .u8 0) := by simp [lowRow]
theorem lowRow_all (ls : List Int) : lowRow ls ls.length = ls.map (Value.int .u8) := by simp [lowRow]
theorem lowRow_set (ls : List Int) (k : Nat) (h : k < ls.length) : (lowRow ls k).set k (.int .u8 ls[k]) = lowRow ls (k + 1) := by
  unfold lowRow
  have hl : ((ls.take k).map (Value.int .u8)).length = k := by simp; omega
  rw [List.set_append_right _ _ (by omega), hl, Nat.sub_self, List.take_succ_eq_append_getElem h, List.map_append, List.append_assoc]
  congr 1
  rw [show ls.length - k = (ls.length - (k + 1)) + 1 from by omega, List.replicate_succ]
  simp
end Go.Proofs.Qxb6613719a
