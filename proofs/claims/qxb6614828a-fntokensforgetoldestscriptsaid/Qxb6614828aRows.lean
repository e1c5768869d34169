/-
  No cell of these rows narrows 'for every input' (looked for: loops, veiled, ifaces, maps, wideKeys, modest, calm, conditions, laid).
  DERIVED. THE GIVEN ROWS OF THIS SEAT. 4 by the template 'for every input the law returns true; each argument reads behind the call as it read before'; 0 by the template 'total and deterministic' (their statements: Qxb6614828aTotals.lean).
  GIVEN WITH THE SEED: the statements are not yours to turn. If you find one false, say at which input.
  Laid BY PROGRAM, IN A SANDBOX (cutbox-rows.mjs): the forced cells as the released guide's own fill.sh prints them over the translation 64a7e4aadfde91b3… (all of the seat's roots in one cut). By AI agents, Wed Nov 11 2026. No macro, syntax, notation, axiom, sorry.
-/
import Derived.Test.Qxb6614828aChecked
import GoSem.Claim
import GoSem.ClaimJoined
import GoSem.ClaimMapViews
import Derived.JoinedTies
import Derived.KernelRfl
namespace Go.Proofs.Qxb6614828a
/- THE CELL 'sum', in the pinned program and in every row, IS THE sha256 OF THE DUMP (.gsa) THAT Qxb6614828aProg.lean LOADS. Nothing in Lean hashes anything: it is a label: what it is worth is what the hold of that sum in a sandbox is worth. -/
noncomputable def Try.pinned : Pinned := { name := "qxb6614828a", sum := "64a7e4aadfde91b3809f92eeb4f2438e7557c406198214bd035579682952af35", checked := Try.checked }
namespace Rows
def none {H : Type} : Left H := { results := [], args := [] }

/-- 'zzlaws_pkg_core_b1.FnCompareRangesMatchesKeyOrder': WHATEVER THE INPUT: true; the input reads as it did. -/
def fnCompareRangesMatchesKeyOrderSpec : ChangeSpec := { name := "fnCompareRangesMatchesKeyOrder", fn := fun _ => fun
  | [d1, d2, d3, d4, d5, d6, d7, d8, d9, d10, d11, d12] => { results := [.lit (.bool true)], args := [d1, d2, d3, d4, d5, d6, d7, d8, d9, d10, d11, d12] }
  | _ => none }
def fnCompareRangesMatchesKeyOrderRow : OpenClaim := { program := "qxb6614828a", sum := "64a7e4aadfde91b3809f92eeb4f2438e7557c406198214bd035579682952af35", func := "example.com/leasehold/leasehold/zzlaws_pkg_core_b1.FnCompareRangesMatchesKeyOrder", spec := "fnCompareRangesMatchesKeyOrder", inPlace := ["internal/bytealg.abigen_runtime_cmpstring"], apart := false }
def FnCompareRangesMatchesKeyOrderSaid : Prop := fnCompareRangesMatchesKeyOrderRow.holds Try.pinned (OpenSpec.ofChange fnCompareRangesMatchesKeyOrderSpec)

/-- ITS FALSE NEIGHBOUR: 'it returns false'. Refute it at one input. -/
def fnCompareRangesMatchesKeyOrderWrong : ChangeSpec := { name := "fnCompareRangesMatchesKeyOrder", fn := fun _ => fun
  | [d1, d2, d3, d4, d5, d6, d7, d8, d9, d10, d11, d12] => { results := [.lit (.bool false)], args := [d1, d2, d3, d4, d5, d6, d7, d8, d9, d10, d11, d12] }
  | _ => none }
def FnCompareRangesMatchesKeyOrderWrongFalsely : Prop := fnCompareRangesMatchesKeyOrderRow.holds Try.pinned (OpenSpec.ofChange fnCompareRangesMatchesKeyOrderWrong)

/-- 'zzlaws_pkg_core_b1.FnCompareRangesTransitive': WHATEVER THE INPUT: true; the input reads as it did. -/
def fnCompareRangesTransitiveSpec : ChangeSpec := { name := "fnCompareRangesTransitive", fn := fun _ => fun
  | [d1, d2, d3, d4, d5, d6, d7, d8, d9] => { results := [.lit (.bool true)], args := [d1, d2, d3, d4, d5, d6, d7, d8, d9] }
  | _ => none }
def fnCompareRangesTransitiveRow : OpenClaim := { program := "qxb6614828a", sum := "64a7e4aadfde91b3809f92eeb4f2438e7557c406198214bd035579682952af35", func := "example.com/leasehold/leasehold/zzlaws_pkg_core_b1.FnCompareRangesTransitive", spec := "fnCompareRangesTransitive", inPlace := ["internal/bytealg.abigen_runtime_cmpstring"], apart := false }
def FnCompareRangesTransitiveSaid : Prop := fnCompareRangesTransitiveRow.holds Try.pinned (OpenSpec.ofChange fnCompareRangesTransitiveSpec)

/-- ITS FALSE NEIGHBOUR: 'it returns false'. Refute it at one input. -/
def fnCompareRangesTransitiveWrong : ChangeSpec := { name := "fnCompareRangesTransitive", fn := fun _ => fun
  | [d1, d2, d3, d4, d5, d6, d7, d8, d9] => { results := [.lit (.bool false)], args := [d1, d2, d3, d4, d5, d6, d7, d8, d9] }
  | _ => none }
def FnCompareRangesTransitiveWrongFalsely : Prop := fnCompareRangesTransitiveRow.holds Try.pinned (OpenSpec.ofChange fnCompareRangesTransitiveWrong)

/-- 'zzlaws_pkg_core_b1.FnTokensForgetOldestScript': WHATEVER THE INPUT: true; the input reads as it did. -/
def fnTokensForgetOldestScriptSpec : ChangeSpec := { name := "fnTokensForgetOldestScript", fn := fun _ => fun
  | [d1, d2, d3] => { results := [.lit (.bool true)], args := [d1, d2, d3] }
  | _ => none }
def fnTokensForgetOldestScriptRow : OpenClaim := { program := "qxb6614828a", sum := "64a7e4aadfde91b3809f92eeb4f2438e7557c406198214bd035579682952af35", func := "example.com/leasehold/leasehold/zzlaws_pkg_core_b1.FnTokensForgetOldestScript", spec := "fnTokensForgetOldestScript", apart := false }
def FnTokensForgetOldestScriptSaid : Prop := fnTokensForgetOldestScriptRow.holds Try.pinned (OpenSpec.ofChange fnTokensForgetOldestScriptSpec)

/-- ITS FALSE NEIGHBOUR: 'it returns false'. Refute it at one input. -/
def fnTokensForgetOldestScriptWrong : ChangeSpec := { name := "fnTokensForgetOldestScript", fn := fun _ => fun
  | [d1, d2, d3] => { results := [.lit (.bool false)], args := [d1, d2, d3] }
  | _ => none }
def FnTokensForgetOldestScriptWrongFalsely : Prop := fnTokensForgetOldestScriptRow.holds Try.pinned (OpenSpec.ofChange fnTokensForgetOldestScriptWrong)

/-- 'zzlaws_pkg_core_b1.FnTokensDrainForgetsOldestFirst': WHATEVER THE INPUT: true; the input reads as it did. -/
def fnTokensDrainForgetsOldestFirstSpec : ChangeSpec := { name := "fnTokensDrainForgetsOldestFirst", fn := fun _ => fun
  | [d1, d2, d3] => { results := [.lit (.bool true)], args := [d1, d2, d3] }
  | _ => none }
def fnTokensDrainForgetsOldestFirstRow : OpenClaim := { program := "qxb6614828a", sum := "64a7e4aadfde91b3809f92eeb4f2438e7557c406198214bd035579682952af35", func := "example.com/leasehold/leasehold/zzlaws_pkg_core_b1.FnTokensDrainForgetsOldestFirst", spec := "fnTokensDrainForgetsOldestFirst", apart := false }
def FnTokensDrainForgetsOldestFirstSaid : Prop := fnTokensDrainForgetsOldestFirstRow.holds Try.pinned (OpenSpec.ofChange fnTokensDrainForgetsOldestFirstSpec)

/-- ITS FALSE NEIGHBOUR: 'it returns false'. Refute it at one input. -/
def fnTokensDrainForgetsOldestFirstWrong : ChangeSpec := { name := "fnTokensDrainForgetsOldestFirst", fn := fun _ => fun
  | [d1, d2, d3] => { results := [.lit (.bool false)], args := [d1, d2, d3] }
  | _ => none }
def FnTokensDrainForgetsOldestFirstWrongFalsely : Prop := fnTokensDrainForgetsOldestFirstRow.holds Try.pinned (OpenSpec.ofChange fnTokensDrainForgetsOldestFirstWrong)

end Rows
end Go.Proofs.Qxb6614828a
