/-
  No cell of these rows narrows 'for every input' (looked for: loops, veiled, ifaces, maps, wideKeys, modest, calm, conditions, laid).
  DERIVED. THE GIVEN ROWS OF THIS SEAT. 2 by the template 'for every input the law returns true; each argument reads behind the call as it read before'; 0 by the template 'total and deterministic' (their statements: Qxb6619317aModsTotals.lean).
  GIVEN WITH THE SEED: the statements are not yours to turn. If you find one false, say at which input.
  Laid BY PROGRAM, IN A SANDBOX (cutbox-rows.mjs): the forced cells as the released guide's own fill.sh prints them over the translation 30e2dcedd5485119… (all of the seat's roots in one cut). By AI agents, Wed Nov 11 2026. No macro, syntax, notation, axiom, sorry.
-/
import Derived.Test.Qxb6619317aModsChecked
import GoSem.Claim
import GoSem.ClaimJoined
import GoSem.ClaimMapViews
import Derived.JoinedTies
import Derived.KernelRfl
namespace Go.Proofs.Qxb6619317aMods
/- THE CELL 'sum', in the pinned program and in every row, IS THE sha256 OF THE DUMP (.gsa) THAT Qxb6619317aModsProg.lean LOADS. Nothing in Lean hashes anything: it is a label: what it is worth is what the hold of that sum in a sandbox is worth. -/
noncomputable def Trym.pinned : Pinned := { name := "qxb6619317amods", sum := "30e2dcedd5485119cd8ee4b43a184ce2fbbe4fc3ad5f51f351793334fc2467c0", checked := Trym.checked }
namespace Rows
def none {H : Type} : Left H := { results := [], args := [] }

/-- 'zzlaws_internal_session_b1.FnModeOfAsksForTheNamedBind': WHATEVER THE INPUT: true; the input reads as it did. -/
def fnModeOfAsksForTheNamedBindSpec : ChangeSpec := { name := "fnModeOfAsksForTheNamedBind", fn := fun _ => fun
  | [d1, d2] => { results := [.lit (.bool true)], args := [d1, d2] }
  | _ => none }
def fnModeOfAsksForTheNamedBindRow : OpenClaim := { program := "qxb6619317amods", sum := "30e2dcedd5485119cd8ee4b43a184ce2fbbe4fc3ad5f51f351793334fc2467c0", func := "example.com/bindwire/bindwire/zzlaws_internal_session_b1.FnModeOfAsksForTheNamedBind", spec := "fnModeOfAsksForTheNamedBind", make := .lifted ["publicsums"], apart := false }
def FnModeOfAsksForTheNamedBindSaid : Prop := fnModeOfAsksForTheNamedBindRow.holds Trym.pinned (OpenSpec.ofChange fnModeOfAsksForTheNamedBindSpec)

/-- ITS FALSE NEIGHBOUR: 'it returns false'. Refute it at one input. -/
def fnModeOfAsksForTheNamedBindWrong : ChangeSpec := { name := "fnModeOfAsksForTheNamedBind", fn := fun _ => fun
  | [d1, d2] => { results := [.lit (.bool false)], args := [d1, d2] }
  | _ => none }
def FnModeOfAsksForTheNamedBindWrongFalsely : Prop := fnModeOfAsksForTheNamedBindRow.holds Trym.pinned (OpenSpec.ofChange fnModeOfAsksForTheNamedBindWrong)

/-- 'zzlaws_internal_session_b1.FnNewAccountsCutAndInsert': WHATEVER THE INPUT: true; the input reads as it did. -/
def fnNewAccountsCutAndInsertSpec : ChangeSpec := { name := "fnNewAccountsCutAndInsert", fn := fun _ => fun
  | [d1, d2, d3] => { results := [.lit (.bool true)], args := [d1, d2, d3] }
  | _ => none }
def fnNewAccountsCutAndInsertRow : OpenClaim := { program := "qxb6619317amods", sum := "30e2dcedd5485119cd8ee4b43a184ce2fbbe4fc3ad5f51f351793334fc2467c0", func := "example.com/bindwire/bindwire/zzlaws_internal_session_b1.FnNewAccountsCutAndInsert", spec := "fnNewAccountsCutAndInsert", make := .lifted ["publicsums"], apart := false }
def FnNewAccountsCutAndInsertSaid : Prop := fnNewAccountsCutAndInsertRow.holds Trym.pinned (OpenSpec.ofChange fnNewAccountsCutAndInsertSpec)

/-- ITS FALSE NEIGHBOUR: 'it returns false'. Refute it at one input. -/
def fnNewAccountsCutAndInsertWrong : ChangeSpec := { name := "fnNewAccountsCutAndInsert", fn := fun _ => fun
  | [d1, d2, d3] => { results := [.lit (.bool false)], args := [d1, d2, d3] }
  | _ => none }
def FnNewAccountsCutAndInsertWrongFalsely : Prop := fnNewAccountsCutAndInsertRow.holds Trym.pinned (OpenSpec.ofChange fnNewAccountsCutAndInsertWrong)

end Rows
end Go.Proofs.Qxb6619317aMods
