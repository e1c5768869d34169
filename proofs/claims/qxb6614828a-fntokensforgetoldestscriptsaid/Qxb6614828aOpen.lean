import Derived.Test.Qxb6614828aDrainA
import Derived.Deep.Slices
import Derived.Deep.Strs
import Derived.Deep.SlicePairs
namespace Go.Proofs.Qxb6614828a
open Go.RowKit
set_option linter.unusedVariables false
theorem cells44 : Try.prog.cellsOf 44 = 3 := by kernel_rfl
theorem cells9 : Try.prog.cellsOf 9 = 1 := by kernel_rfl
theorem cells22 : Try.prog.cellsOf 22 = 1 := by kernel_rfl
theorem und44 : ∃ f0 f1 f2 : Field, Try.prog.underlying 44 = some (.struct #[f0, f1, f2]) ∧ f0.offset = 0 ∧ f1.offset = 1 ∧ f2.offset = 2 ∧ f0.type = 9 ∧ f1.type = 22 ∧ f2.type = 22 :=
  ⟨_, _, _, Try.underlying44, rfl, rfl, rfl, rfl, rfl, rfl⟩
theorem open_ents {H : Type} {enc : TypeId × Value → H} {w : World} {base : Nat} {spare : Nat → Bool} {held : Bool} {fuel : Nat} {a : Option Addr} {len cap : Nat} {x : DataW H × List MemPlace}
    (h : DataW.trod enc Try.prog w base spare held fuel 35 [.slice a len cap] = some x) : ∃ L : Nat → ByteArray × Int × Int, Ents w a L len := by
  rcases Go.Deep.open_slice Try.underlying35 h with ⟨hcs, _⟩ | ⟨ad, l, c, m, n, D, Pl, hcs, hb, hl, hm, hmm, _, hx⟩
  · simp at hcs
    obtain ⟨rfl, rfl, rfl⟩ := hcs
    exact ⟨fun _ => (ByteArray.empty, 0, 0), ⟨fun i hi => absurd hi (Nat.not_lt_zero _), fun i hi => absurd hi (Nat.not_lt_zero _)⟩⟩
  · simp at hcs
    obtain ⟨rfl, rfl, rfl⟩ := hcs
    have hlm : len ≤ m := by rw [hmm]; split <;> omega
    obtain ⟨f0, f1, f2, hu, o0, o1, o2, t0, t1, t2⟩ := und44
    have each : ∀ i, i < len → ∃ q : ByteArray × Int × Int, w.cell? (ad.add (i * 3)) = some (.string q.1) ∧ w.cell? (ad.add (i * 3 + 1)) = some (.int .u64 q.2.1) ∧ w.cell? (ad.add (i * 3 + 2)) = some (.int .u64 q.2.2) ∧ q.1.size ≤ maxLen := by
      intro i hi
      obtain ⟨cs', h1, h2⟩ := hx i (by omega)
      rw [cells44] at h1
      obtain ⟨_, hlen, hcell⟩ := World.cells?_some h1
      obtain ⟨y0, y1, y2, k, _, _, g0, g1, g2⟩ := Go.Deep.trod_struct3 hu h2
      match cs', hlen with
      | [v0, v1, v2], _ =>
        rw [o0, t0, cells9] at g0
        rw [o1, t1, cells22] at g1
        rw [o2, t2, cells22] at g2
        simp at g0 g1 g2
        obtain ⟨s, hs, _, hsz⟩ := DataW.trod_string Try.underlying9 g0
        obtain ⟨p, hp, _, _⟩ := DataW.trod_int Try.underlying22 g1
        obtain ⟨q, hq, _, _⟩ := DataW.trod_int Try.underlying22 g2
        simp at hs hp hq
        subst hs hp hq
        have e0 := hcell 0 (by omega)
        have e1 := hcell 1 (by omega)
        have e2 := hcell 2 (by omega)
        rw [Go.Deep.add_add] at e0 e1 e2
        exact ⟨(s, p, q), by simpa using e0, by simpa using e1, by simpa using e2, hsz⟩
    obtain ⟨L, hL⟩ := Go.Deep.choose_lt each
    refine ⟨L, ⟨fun i hi => ?_, fun i hi => (hL i hi).2.2.2⟩⟩
    obtain ⟨h0, h1, h2, _⟩ := hL i hi
    have h00 := (hL 0 (by omega)).1
    obtain ⟨bb, oo, spot⟩ := ad
    have hs : spot = none := by
      have := World.cell?_spot h00
      simpa [Addr.add] using this
    subst hs
    rw [addr_add] at h0 h1 h2
    exact ⟨bb, oo, rfl, h0, by rw [Nat.add_assoc]; exact h1, by rw [Nat.add_assoc]; exact h2⟩
end Go.Proofs.Qxb6614828a
