/-
  No cell of these rows narrows 'for every input' (looked for: loops, veiled, ifaces, maps, wideKeys, modest, calm, conditions, laid).
  DERIVED. THE GIVEN ROWS OF THIS SEAT. 2 by the template 'for every input the law returns true; each argument reads behind the call as it read before'; 0 by the template 'total and deterministic' (their statements: Qxb6608781aModsTotals.lean).
  GIVEN WITH THE SEED: the statements are not yours to turn. If you find one false, say at which input.
  Laid BY PROGRAM, IN A SANDBOX (cutbox-rows.mjs): the forced cells as the released guide's own fill.sh prints them over the translation 787e482225f5d8e9… (all of the seat's roots in one cut). By AI agents, Wed Nov 11 2026. No macro, syntax, notation, axiom, sorry.
-/
import Derived.Test.Qxb6608781aModsChecked
import GoSem.Claim
import GoSem.ClaimJoined
import GoSem.ClaimMapViews
import Derived.JoinedTies
import Derived.KernelRfl
namespace Go.Proofs.Qxb6608781aMods
/- THE CELL 'sum', in the pinned program and in every row, IS THE sha256 OF THE DUMP (.gsa) THAT Qxb6608781aModsProg.lean LOADS. Nothing in Lean hashes anything: it is a label: what it is worth is what the hold of that sum in a sandbox is worth. -/
noncomputable def Trym.pinned : Pinned := { name := "qxb6608781amods", sum := "787e482225f5d8e9581a599f12a1926e19c48f5c21c0c7c7ccdacbd7bf5c9427", checked := Trym.checked }
namespace Rows
def none {H : Type} : Left H := { results := [], args := [] }

/-- 'zzlaws_root_b1.FnFindReturnsRootKeepsSets': WHATEVER THE INPUT: true; the input reads as it did. -/
def fnFindReturnsRootKeepsSetsSpec : ChangeSpec := { name := "fnFindReturnsRootKeepsSets", fn := fun _ => fun
  | [d1, d2] => { results := [.lit (.bool true)], args := [d1, d2] }
  | _ => none }
def fnFindReturnsRootKeepsSetsRow : OpenClaim := { program := "qxb6608781amods", sum := "787e482225f5d8e9581a599f12a1926e19c48f5c21c0c7c7ccdacbd7bf5c9427", func := "example.com/bunkmate/bunkmate/zzlaws_root_b1.FnFindReturnsRootKeepsSets", spec := "fnFindReturnsRootKeepsSets", make := .lifted ["publicsums"], apart := false }
def FnFindReturnsRootKeepsSetsSaid : Prop := fnFindReturnsRootKeepsSetsRow.holds Trym.pinned (OpenSpec.ofChange fnFindReturnsRootKeepsSetsSpec)

/-- ITS FALSE NEIGHBOUR: 'it returns false'. Refute it at one input. -/
def fnFindReturnsRootKeepsSetsWrong : ChangeSpec := { name := "fnFindReturnsRootKeepsSets", fn := fun _ => fun
  | [d1, d2] => { results := [.lit (.bool false)], args := [d1, d2] }
  | _ => none }
def FnFindReturnsRootKeepsSetsWrongFalsely : Prop := fnFindReturnsRootKeepsSetsRow.holds Trym.pinned (OpenSpec.ofChange fnFindReturnsRootKeepsSetsWrong)

/-- 'zzlaws_root_b1.FnFindHalvesPathAndRepeats': WHATEVER THE INPUT: true; the input reads as it did. -/
def fnFindHalvesPathAndRepeatsSpec : ChangeSpec := { name := "fnFindHalvesPathAndRepeats", fn := fun _ => fun
  | [d1, d2] => { results := [.lit (.bool true)], args := [d1, d2] }
  | _ => none }
def fnFindHalvesPathAndRepeatsRow : OpenClaim := { program := "qxb6608781amods", sum := "787e482225f5d8e9581a599f12a1926e19c48f5c21c0c7c7ccdacbd7bf5c9427", func := "example.com/bunkmate/bunkmate/zzlaws_root_b1.FnFindHalvesPathAndRepeats", spec := "fnFindHalvesPathAndRepeats", make := .lifted ["publicsums"], apart := false }
def FnFindHalvesPathAndRepeatsSaid : Prop := fnFindHalvesPathAndRepeatsRow.holds Trym.pinned (OpenSpec.ofChange fnFindHalvesPathAndRepeatsSpec)

/-- ITS FALSE NEIGHBOUR: 'it returns false'. Refute it at one input. -/
def fnFindHalvesPathAndRepeatsWrong : ChangeSpec := { name := "fnFindHalvesPathAndRepeats", fn := fun _ => fun
  | [d1, d2] => { results := [.lit (.bool false)], args := [d1, d2] }
  | _ => none }
def FnFindHalvesPathAndRepeatsWrongFalsely : Prop := fnFindHalvesPathAndRepeatsRow.holds Trym.pinned (OpenSpec.ofChange fnFindHalvesPathAndRepeatsWrong)

end Rows
end Go.Proofs.Qxb6608781aMods
