/-
  No cell of these rows narrows 'for every input' (looked for: loops, veiled, ifaces, maps, wideKeys, modest, calm, conditions, laid).
  DERIVED. THE GIVEN ROWS OF THIS SEAT. 2 by the template 'for every input the law returns true; each argument reads behind the call as it read before'; 0 by the template 'total and deterministic' (their statements: Qxb6613032aModsTotals.lean).
  GIVEN WITH THE SEED: the statements are not yours to turn. If you find one false, say at which input.
  Laid BY PROGRAM, IN A SANDBOX (cutbox-rows.mjs): the forced cells as the released guide's own fill.sh prints them over the translation 43f8b6071f19ecad… (all of the seat's roots in one cut). By AI agents, Wed Nov 11 2026. No macro, syntax, notation, axiom, sorry.
-/
import Derived.Test.Qxb6613032aModsChecked
import GoSem.Claim
import GoSem.ClaimJoined
import GoSem.ClaimMapViews
import Derived.JoinedTies
import Derived.KernelRfl
namespace Go.Proofs.Qxb6613032aMods
/- THE CELL 'sum', in the pinned program and in every row, IS THE sha256 OF THE DUMP (.gsa) THAT Qxb6613032aModsProg.lean LOADS. Nothing in Lean hashes anything: it is a label: what it is worth is what the hold of that sum in a sandbox is worth. -/
noncomputable def Trym.pinned : Pinned := { name := "qxb6613032amods", sum := "43f8b6071f19ecad378c49448310cca0abb75e24cc3d4bd9fefed6c6433a0a8c", checked := Trym.checked }
namespace Rows
def none {H : Type} : Left H := { results := [], args := [] }

/-- 'zzlaws_internal_server_b1.FnPathParameterFreshEachCall': WHATEVER THE INPUT: true; the input reads as it did. -/
def fnPathParameterFreshEachCallSpec : ChangeSpec := { name := "fnPathParameterFreshEachCall", fn := fun _ => fun
  | [d1, d2, d3] => { results := [.lit (.bool true)], args := [d1, d2, d3] }
  | _ => none }
def fnPathParameterFreshEachCallRow : OpenClaim := { program := "qxb6613032amods", sum := "43f8b6071f19ecad378c49448310cca0abb75e24cc3d4bd9fefed6c6433a0a8c", func := "example.com/fleetkeeper/fleetkeeper/zzlaws_internal_server_b1.FnPathParameterFreshEachCall", spec := "fnPathParameterFreshEachCall", make := .lifted ["publicsums"], apart := false }
def FnPathParameterFreshEachCallSaid : Prop := fnPathParameterFreshEachCallRow.holds Trym.pinned (OpenSpec.ofChange fnPathParameterFreshEachCallSpec)

/-- ITS FALSE NEIGHBOUR: 'it returns false'. Refute it at one input. -/
def fnPathParameterFreshEachCallWrong : ChangeSpec := { name := "fnPathParameterFreshEachCall", fn := fun _ => fun
  | [d1, d2, d3] => { results := [.lit (.bool false)], args := [d1, d2, d3] }
  | _ => none }
def FnPathParameterFreshEachCallWrongFalsely : Prop := fnPathParameterFreshEachCallRow.holds Trym.pinned (OpenSpec.ofChange fnPathParameterFreshEachCallWrong)

/-- 'zzlaws_internal_server_b1.FnDefSeesEachNewDefinition': WHATEVER THE INPUT: true; the input reads as it did. -/
def fnDefSeesEachNewDefinitionSpec : ChangeSpec := { name := "fnDefSeesEachNewDefinition", fn := fun _ => fun
  | [d1, d2] => { results := [.lit (.bool true)], args := [d1, d2] }
  | _ => none }
def fnDefSeesEachNewDefinitionRow : OpenClaim := { program := "qxb6613032amods", sum := "43f8b6071f19ecad378c49448310cca0abb75e24cc3d4bd9fefed6c6433a0a8c", func := "example.com/fleetkeeper/fleetkeeper/zzlaws_internal_server_b1.FnDefSeesEachNewDefinition", spec := "fnDefSeesEachNewDefinition", make := .lifted ["publicsums"], apart := false }
def FnDefSeesEachNewDefinitionSaid : Prop := fnDefSeesEachNewDefinitionRow.holds Trym.pinned (OpenSpec.ofChange fnDefSeesEachNewDefinitionSpec)

/-- ITS FALSE NEIGHBOUR: 'it returns false'. Refute it at one input. -/
def fnDefSeesEachNewDefinitionWrong : ChangeSpec := { name := "fnDefSeesEachNewDefinition", fn := fun _ => fun
  | [d1, d2] => { results := [.lit (.bool false)], args := [d1, d2] }
  | _ => none }
def FnDefSeesEachNewDefinitionWrongFalsely : Prop := fnDefSeesEachNewDefinitionRow.holds Trym.pinned (OpenSpec.ofChange fnDefSeesEachNewDefinitionWrong)

end Rows
end Go.Proofs.Qxb6613032aMods
