/-
  No cell of these rows narrows 'for every input' (looked for: loops, veiled, ifaces, maps, wideKeys, modest, calm, conditions, laid).
  DERIVED. THE GIVEN ROWS OF THIS SEAT. 3 by the template 'for every input the law returns true; each argument reads behind the call as it read before'; 0 by the template 'total and deterministic' (their statements: Qxb6608571aModsTotals.lean).
  GIVEN WITH THE SEED: the statements are not yours to turn. If you find one false, say at which input.
  Laid BY PROGRAM, IN A SANDBOX (cutbox-rows.mjs): the forced cells as the released guide's own fill.sh prints them over the translation faf54e8af0ce4ab9… (all of the seat's roots in one cut). By AI agents, Wed Nov 11 2026. No macro, syntax, notation, axiom, sorry.
-/
import Derived.Test.Qxb6608571aModsChecked
import GoSem.Claim
import GoSem.ClaimJoined
import GoSem.ClaimMapViews
import Derived.JoinedTies
import Derived.KernelRfl
namespace Go.Proofs.Qxb6608571aMods
/- THE CELL 'sum', in the pinned program and in every row, IS THE sha256 OF THE DUMP (.gsa) THAT Qxb6608571aModsProg.lean LOADS. Nothing in Lean hashes anything: it is a label: what it is worth is what the hold of that sum in a sandbox is worth. -/
noncomputable def Trym.pinned : Pinned := { name := "qxb6608571amods", sum := "faf54e8af0ce4ab9b6b8607d3141bc539a0892bda4b65ee4340bf471bcf0ffbe", checked := Trym.checked }
namespace Rows
def none {H : Type} : Left H := { results := [], args := [] }

/-- 'zzlaws_root_b1.FnDistanceOneBitFlip': WHATEVER THE INPUT: true; the input reads as it did. -/
def fnDistanceOneBitFlipSpec : ChangeSpec := { name := "fnDistanceOneBitFlip", fn := fun _ => fun
  | [d1, d2, d3] => { results := [.lit (.bool true)], args := [d1, d2, d3] }
  | _ => none }
def fnDistanceOneBitFlipRow : OpenClaim := { program := "qxb6608571amods", sum := "faf54e8af0ce4ab9b6b8607d3141bc539a0892bda4b65ee4340bf471bcf0ffbe", func := "example.com/nearmark/nearmark/zzlaws_root_b1.FnDistanceOneBitFlip", spec := "fnDistanceOneBitFlip", make := .lifted ["publicsums"], apart := false }
def FnDistanceOneBitFlipSaid : Prop := fnDistanceOneBitFlipRow.holds Trym.pinned (OpenSpec.ofChange fnDistanceOneBitFlipSpec)

/-- ITS FALSE NEIGHBOUR: 'it returns false'. Refute it at one input. -/
def fnDistanceOneBitFlipWrong : ChangeSpec := { name := "fnDistanceOneBitFlip", fn := fun _ => fun
  | [d1, d2, d3] => { results := [.lit (.bool false)], args := [d1, d2, d3] }
  | _ => none }
def FnDistanceOneBitFlipWrongFalsely : Prop := fnDistanceOneBitFlipRow.holds Trym.pinned (OpenSpec.ofChange fnDistanceOneBitFlipWrong)

/-- 'zzlaws_root_b1.FnDistanceComplementAndMaskSplit': WHATEVER THE INPUT: true; the input reads as it did. -/
def fnDistanceComplementAndMaskSplitSpec : ChangeSpec := { name := "fnDistanceComplementAndMaskSplit", fn := fun _ => fun
  | [d1, d2, d3] => { results := [.lit (.bool true)], args := [d1, d2, d3] }
  | _ => none }
def fnDistanceComplementAndMaskSplitRow : OpenClaim := { program := "qxb6608571amods", sum := "faf54e8af0ce4ab9b6b8607d3141bc539a0892bda4b65ee4340bf471bcf0ffbe", func := "example.com/nearmark/nearmark/zzlaws_root_b1.FnDistanceComplementAndMaskSplit", spec := "fnDistanceComplementAndMaskSplit", make := .lifted ["publicsums"], apart := false }
def FnDistanceComplementAndMaskSplitSaid : Prop := fnDistanceComplementAndMaskSplitRow.holds Trym.pinned (OpenSpec.ofChange fnDistanceComplementAndMaskSplitSpec)

/-- ITS FALSE NEIGHBOUR: 'it returns false'. Refute it at one input. -/
def fnDistanceComplementAndMaskSplitWrong : ChangeSpec := { name := "fnDistanceComplementAndMaskSplit", fn := fun _ => fun
  | [d1, d2, d3] => { results := [.lit (.bool false)], args := [d1, d2, d3] }
  | _ => none }
def FnDistanceComplementAndMaskSplitWrongFalsely : Prop := fnDistanceComplementAndMaskSplitRow.holds Trym.pinned (OpenSpec.ofChange fnDistanceComplementAndMaskSplitWrong)

/-- 'zzlaws_root_b1.FnScanPairsPrependOne': WHATEVER THE INPUT: true; the input reads as it did. -/
def fnScanPairsPrependOneSpec : ChangeSpec := { name := "fnScanPairsPrependOne", fn := fun _ => fun
  | [d1, d2, d3] => { results := [.lit (.bool true)], args := [d1, d2, d3] }
  | _ => none }
def fnScanPairsPrependOneRow : OpenClaim := { program := "qxb6608571amods", sum := "faf54e8af0ce4ab9b6b8607d3141bc539a0892bda4b65ee4340bf471bcf0ffbe", func := "example.com/nearmark/nearmark/zzlaws_root_b1.FnScanPairsPrependOne", spec := "fnScanPairsPrependOne", make := .lifted ["publicsums"], apart := false }
def FnScanPairsPrependOneSaid : Prop := fnScanPairsPrependOneRow.holds Trym.pinned (OpenSpec.ofChange fnScanPairsPrependOneSpec)

/-- ITS FALSE NEIGHBOUR: 'it returns false'. Refute it at one input. -/
def fnScanPairsPrependOneWrong : ChangeSpec := { name := "fnScanPairsPrependOne", fn := fun _ => fun
  | [d1, d2, d3] => { results := [.lit (.bool false)], args := [d1, d2, d3] }
  | _ => none }
def FnScanPairsPrependOneWrongFalsely : Prop := fnScanPairsPrependOneRow.holds Trym.pinned (OpenSpec.ofChange fnScanPairsPrependOneWrong)

end Rows
end Go.Proofs.Qxb6608571aMods
