/-
  No cell of these rows narrows 'for every input' (looked for: loops, veiled, ifaces, maps, wideKeys, modest, calm, conditions, laid).
  DERIVED. THE GIVEN ROWS OF THIS SEAT. 2 by the template 'for every input the law returns true; each argument reads behind the call as it read before'; 0 by the template 'total and deterministic' (their statements: Qxb6613215aModsTotals.lean).
  GIVEN WITH THE SEED: the statements are not yours to turn. If you find one false, say at which input.
  Laid BY PROGRAM, IN A SANDBOX (cutbox-rows.mjs): the forced cells as the released guide's own fill.sh prints them over the translation 930073079fb7e74a… (all of the seat's roots in one cut). By AI agents, Wed Nov 11 2026. No macro, syntax, notation, axiom, sorry.
-/
import Derived.Test.Qxb6613215aModsChecked
import GoSem.Claim
import GoSem.ClaimJoined
import GoSem.ClaimMapViews
import Derived.JoinedTies
import Derived.KernelRfl
namespace Go.Proofs.Qxb6613215aMods
/- THE CELL 'sum', in the pinned program and in every row, IS THE sha256 OF THE DUMP (.gsa) THAT Qxb6613215aModsProg.lean LOADS. Nothing in Lean hashes anything: it is a label: what it is worth is what the hold of that sum in a sandbox is worth. -/
noncomputable def Trym.pinned : Pinned := { name := "qxb6613215amods", sum := "930073079fb7e74a05b12376b25a5a44edceae995fccd45846f5cc5f29707d57", checked := Trym.checked }
namespace Rows
def none {H : Type} : Left H := { results := [], args := [] }

/-- 'zzlaws_pkg_layerfs_b1.FnIsOctalWindowCount': WHATEVER THE INPUT: true; the input reads as it did. -/
def fnIsOctalWindowCountSpec : ChangeSpec := { name := "fnIsOctalWindowCount", fn := fun _ => fun
  | [d] => { results := [.lit (.bool true)], args := [d] }
  | _ => none }
def fnIsOctalWindowCountRow : OpenClaim := { program := "qxb6613215amods", sum := "930073079fb7e74a05b12376b25a5a44edceae995fccd45846f5cc5f29707d57", func := "example.com/evident-container/evident-container/zzlaws_pkg_layerfs_b1.FnIsOctalWindowCount", spec := "fnIsOctalWindowCount", make := .lifted ["publicsums"], apart := false }
def FnIsOctalWindowCountSaid : Prop := fnIsOctalWindowCountRow.holds Trym.pinned (OpenSpec.ofChange fnIsOctalWindowCountSpec)

/-- ITS FALSE NEIGHBOUR: 'it returns false'. Refute it at one input. -/
def fnIsOctalWindowCountWrong : ChangeSpec := { name := "fnIsOctalWindowCount", fn := fun _ => fun
  | [d] => { results := [.lit (.bool false)], args := [d] }
  | _ => none }
def FnIsOctalWindowCountWrongFalsely : Prop := fnIsOctalWindowCountRow.holds Trym.pinned (OpenSpec.ofChange fnIsOctalWindowCountWrong)

/-- 'zzlaws_pkg_layerfs_b1.FnIsOctalOnePerResidue': WHATEVER THE INPUT: true; the input reads as it did. -/
def fnIsOctalOnePerResidueSpec : ChangeSpec := { name := "fnIsOctalOnePerResidue", fn := fun _ => fun
  | [d] => { results := [.lit (.bool true)], args := [d] }
  | _ => none }
def fnIsOctalOnePerResidueRow : OpenClaim := { program := "qxb6613215amods", sum := "930073079fb7e74a05b12376b25a5a44edceae995fccd45846f5cc5f29707d57", func := "example.com/evident-container/evident-container/zzlaws_pkg_layerfs_b1.FnIsOctalOnePerResidue", spec := "fnIsOctalOnePerResidue", make := .lifted ["publicsums"], apart := false }
def FnIsOctalOnePerResidueSaid : Prop := fnIsOctalOnePerResidueRow.holds Trym.pinned (OpenSpec.ofChange fnIsOctalOnePerResidueSpec)

/-- ITS FALSE NEIGHBOUR: 'it returns false'. Refute it at one input. -/
def fnIsOctalOnePerResidueWrong : ChangeSpec := { name := "fnIsOctalOnePerResidue", fn := fun _ => fun
  | [d] => { results := [.lit (.bool false)], args := [d] }
  | _ => none }
def FnIsOctalOnePerResidueWrongFalsely : Prop := fnIsOctalOnePerResidueRow.holds Trym.pinned (OpenSpec.ofChange fnIsOctalOnePerResidueWrong)

end Rows
end Go.Proofs.Qxb6613215aMods
