import Derived.Test.Qxb6613719aDoorBits
import Derived.ArgAppend
namespace Go.Proofs.Qxb6613719aDoor
open Go.RowKit
/-- The cells that a search and a step table are read by. -/
structure Search (w : World) (ps : Nat) (mv : Value) (gen : Int) : Prop where
  marks : w.cell? ⟨ps, 33, none⟩ = some mv
  gener : w.cell? ⟨ps, 34, none⟩ = some (.int .i64 gen)
structure Table (w : World) (tb : Nat) (start : Int) (fv cv jv : Value) : Prop where
  start : w.cell? ⟨tb, 1, none⟩ = some (.int .i64 start)
  first : w.cell? ⟨tb, 3, none⟩ = some fv
  eager : w.cell? ⟨tb, 4, none⟩ = some (.bool true)
  chain : w.cell? ⟨tb, 5, none⟩ = some cv
  jump : w.cell? ⟨tb, 10, none⟩ = some jv
theorem Search.kept {w w' : World} {ps : Nat} {mv : Value} {gen : Int} (h : Search w ps mv gen) (hk : w'.heap[ps]? = w.heap[ps]?) : Search w' ps mv gen :=
  ⟨(World.cell?_of_block hk).trans h.marks, (World.cell?_of_block hk).trans h.gener⟩
theorem Table.kept {w w' : World} {tb : Nat} {start : Int} {fv cv jv : Value} (h : Table w tb start fv cv jv) (hk : w'.heap[tb]? = w.heap[tb]?) : Table w' tb start fv cv jv :=
  ⟨(World.cell?_of_block hk).trans h.start, (World.cell?_of_block hk).trans h.first, (World.cell?_of_block hk).trans h.eager, (World.cell?_of_block hk).trans h.chain, (World.cell?_of_block hk).trans h.jump⟩
theorem Search.lt {w : World} {ps : Nat} {mv : Value} {gen : Int} (h : Search w ps mv gen) : ps < w.heap.size := block_lt_of_cell h.marks
theorem Table.lt {w : World} {tb : Nat} {start : Int} {fv cv jv : Value} (h : Table w tb start fv cv jv) : tb < w.heap.size := block_lt_of_cell h.start

set_option maxHeartbeats 400000 in
theorem newSearch_any (a : Option Addr) (n c : Nat) (gen : Int) (w : World) :
    Calls Tryd.prog 8 #[.slice a n c, .int .i64 gen] w fun e w' => e = .returned (.pointer (some ⟨w.heap.size, 0, none⟩)) ∧
      Search w' w.heap.size (.slice a n c) gen ∧ w'.heap.size = w.heap.size + 1 ∧ Below w.heap.size w w' := by
  go_enter Tryd.func8, Tryd.ntmps8
  go_wp2
  go_ret
  exact ⟨rfl, ⟨by rw [World.cell?_alloc_at _ _ _ _ rfl]; rfl, by rw [World.cell?_alloc_at _ _ _ _ rfl]; rfl⟩, by simp, (Below.refl _ _).alloc (Nat.le_refl _) _⟩
set_option maxHeartbeats 400000 in
theorem newTable_any (start : Int) (a0 a1 a2 : Option Addr) (n0 c0 n1 c1 n2 c2 : Nat) (w : World) :
    Calls Tryd.prog 9 #[.int .i64 start, .slice a0 n0 c0, .slice a1 n1 c1, .slice a2 n2 c2] w fun e w' => e = .returned (.pointer (some ⟨w.heap.size, 0, none⟩)) ∧
      Table w' w.heap.size start (.slice a0 n0 c0) (.slice a1 n1 c1) (.slice a2 n2 c2) ∧ w'.heap.size = w.heap.size + 1 ∧ Below w.heap.size w w' := by
  go_enter Tryd.func9, Tryd.ntmps9
  go_wp2
  go_ret
  exact ⟨rfl, ⟨by rw [World.cell?_alloc_at _ _ _ _ rfl]; rfl, by rw [World.cell?_alloc_at _ _ _ _ rfl]; rfl, by rw [World.cell?_alloc_at _ _ _ _ rfl]; rfl, by rw [World.cell?_alloc_at _ _ _ _ rfl]; rfl, by rw [World.cell?_alloc_at _ _ _ _ rfl]; rfl⟩, by simp, (Below.refl _ _).alloc (Nat.le_refl _) _⟩
set_option maxHeartbeats 400000 in
theorem searchMarks_any (ps : Nat) (mv : Value) (gen : Int) (w : World) (h : Search w ps mv gen) :
    Calls Tryd.prog 11 #[.pointer (some ⟨ps, 0, none⟩)] w fun e w' => e = .returned mv ∧ w' = w := by
  have hm := h.marks
  clear h
  go_enter Tryd.func11, Tryd.ntmps11
  go_wp2
  go_ret
  exact ⟨rfl, rfl⟩
end Go.Proofs.Qxb6613719aDoor
