/-
  DERIVED. GIVEN WITH THE SEED: THE CARDS: each row of Qxb6613719aDoorRows.lean that lists a variable, with what it lists TIED to the program's text (the seventh form; the later family's looks); each row that meets fmt, with fmt's text TOLD by the authors' own Lean function (tested against real Go, not proved from fmt's source: count such statements apart). THE CARD IS WHAT COUNTS. Prove the row's statement (the work); the ties are given (Qxb6613719aDoorTie.lean); close each card by the builder's one call (the guide's Derived/Test/ToyasCard.lean, 'card_holds'). Laid BY PROGRAM, IN A SANDBOX (cutbox-door.mjs). By AI agents, Wed Nov 11 2026. No macro, syntax, notation, axiom, sorry.
-/
import Derived.Test.Qxb6613719aDoorRows
import GoSem.ClaimSeven
namespace Go.Proofs.Qxb6613719aDoor
namespace Rows

/-- THE TIED CARD OF 'zzlaws_internal_redact_b1.FnStepBackAddsEachNewPredecessorOnce'. -/
def fnStepBackAddsEachNewPredecessorOnceCard : Claim7 := { stood := { row := fnStepBackAddsEachNewPredecessorOnceRow, standIns := [], harness := (true, "5623e907a829c5ff2515e0667077f4b73513d8555467215e567cba3ca9547414"), looks := false }, kinds := [], alts := [], laidByText := true, laidKinds := [.data], laidTests := true, laidLooks := .later }
def FnStepBackAddsEachNewPredecessorOnceCardSaid : Prop := Claim7.holds Tryd.pinned (.plain (OpenSpec.ofChange fnStepBackAddsEachNewPredecessorOnceSpec)) fnStepBackAddsEachNewPredecessorOnceCard

/-- THE TIED CARD OF 'zzlaws_internal_redact_b1.FnStepBackNeverStandsTwiceAcrossCalls'. -/
def fnStepBackNeverStandsTwiceAcrossCallsCard : Claim7 := { stood := { row := fnStepBackNeverStandsTwiceAcrossCallsRow, standIns := [], harness := (true, "5623e907a829c5ff2515e0667077f4b73513d8555467215e567cba3ca9547414"), looks := false }, kinds := [], alts := [], laidByText := true, laidKinds := [.data], laidTests := true, laidLooks := .later }
def FnStepBackNeverStandsTwiceAcrossCallsCardSaid : Prop := Claim7.holds Tryd.pinned (.plain (OpenSpec.ofChange fnStepBackNeverStandsTwiceAcrossCallsSpec)) fnStepBackNeverStandsTwiceAcrossCallsCard
end Rows
end Go.Proofs.Qxb6613719aDoor
