/-
  No cell of these rows narrows 'for every input' (looked for: loops, veiled, ifaces, maps, wideKeys, modest, calm, conditions, laid).
  DERIVED. THE GIVEN ROWS OF THIS SEAT. 1 by the template 'for every input the law returns true; each argument reads behind the call as it read before'; 0 by the template 'total and deterministic' (their statements: Qxb6614707aModsTotals.lean).
  GIVEN WITH THE SEED: the statements are not yours to turn. If you find one false, say at which input.
  Laid BY PROGRAM, IN A SANDBOX (cutbox-rows.mjs): the forced cells as the released guide's own fill.sh prints them over the translation d5a9e866a61c1a4d… (all of the seat's roots in one cut). By AI agents, Wed Nov 11 2026. No macro, syntax, notation, axiom, sorry.
-/
import Derived.Test.Qxb6614707aModsChecked
import GoSem.Claim
import GoSem.ClaimJoined
import GoSem.ClaimMapViews
import Derived.JoinedTies
import Derived.KernelRfl
namespace Go.Proofs.Qxb6614707aMods
/- THE CELL 'sum', in the pinned program and in every row, IS THE sha256 OF THE DUMP (.gsa) THAT Qxb6614707aModsProg.lean LOADS. Nothing in Lean hashes anything: it is a label: what it is worth is what the hold of that sum in a sandbox is worth. -/
noncomputable def Trym.pinned : Pinned := { name := "qxb6614707amods", sum := "d5a9e866a61c1a4de04a3597a05acfb362f06e179e1e0302179ca800597deb71", checked := Trym.checked }
namespace Rows
def none {H : Type} : Left H := { results := [], args := [] }

/-- 'zzlaws_pkg_server_b1.FnIsVisibleIsPrintableASCIIOtherThanSpace': WHATEVER THE INPUT: true; the input reads as it did. -/
def fnIsVisibleIsPrintableASCIIOtherThanSpaceSpec : ChangeSpec := { name := "fnIsVisibleIsPrintableASCIIOtherThanSpace", fn := fun _ => fun
  | [d] => { results := [.lit (.bool true)], args := [d] }
  | _ => none }
def fnIsVisibleIsPrintableASCIIOtherThanSpaceRow : OpenClaim := { program := "qxb6614707amods", sum := "d5a9e866a61c1a4de04a3597a05acfb362f06e179e1e0302179ca800597deb71", func := "example.com/hushd/hushd/zzlaws_pkg_server_b1.FnIsVisibleIsPrintableASCIIOtherThanSpace", spec := "fnIsVisibleIsPrintableASCIIOtherThanSpace", make := .lifted ["publicsums"], apart := false }
def FnIsVisibleIsPrintableASCIIOtherThanSpaceSaid : Prop := fnIsVisibleIsPrintableASCIIOtherThanSpaceRow.holds Trym.pinned (OpenSpec.ofChange fnIsVisibleIsPrintableASCIIOtherThanSpaceSpec)

/-- ITS FALSE NEIGHBOUR: 'it returns false'. Refute it at one input. -/
def fnIsVisibleIsPrintableASCIIOtherThanSpaceWrong : ChangeSpec := { name := "fnIsVisibleIsPrintableASCIIOtherThanSpace", fn := fun _ => fun
  | [d] => { results := [.lit (.bool false)], args := [d] }
  | _ => none }
def FnIsVisibleIsPrintableASCIIOtherThanSpaceWrongFalsely : Prop := fnIsVisibleIsPrintableASCIIOtherThanSpaceRow.holds Trym.pinned (OpenSpec.ofChange fnIsVisibleIsPrintableASCIIOtherThanSpaceWrong)

end Rows
end Go.Proofs.Qxb6614707aMods
