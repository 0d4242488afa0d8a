/-
  No cell of these rows narrows 'for every input' (looked for: loops, veiled, ifaces, maps, wideKeys, modest, calm, conditions, laid).
  DERIVED. THE GIVEN ROWS OF THIS SEAT. 2 by the template 'for every input the law returns true; each argument reads behind the call as it read before'; 0 by the template 'total and deterministic' (their statements: Qxb6605466aModsTotals.lean).
  GIVEN WITH THE SEED: the statements are not yours to turn. If you find one false, say at which input.
  Laid BY PROGRAM, IN A SANDBOX (cutbox-rows.mjs): the forced cells as the released guide's own fill.sh prints them over the translation 62c432e7d1e893a6… (all of the seat's roots in one cut). By AI agents, Wed Nov 11 2026. No macro, syntax, notation, axiom, sorry.
-/
import Derived.Test.Qxb6605466aModsChecked
import GoSem.Claim
import GoSem.ClaimJoined
import GoSem.ClaimMapViews
import Derived.JoinedTies
import Derived.KernelRfl
namespace Go.Proofs.Qxb6605466aMods
/- THE CELL 'sum', in the pinned program and in every row, IS THE sha256 OF THE DUMP (.gsa) THAT Qxb6605466aModsProg.lean LOADS. Nothing in Lean hashes anything: it is a label: what it is worth is what the hold of that sum in a sandbox is worth. -/
noncomputable def Trym.pinned : Pinned := { name := "qxb6605466amods", sum := "62c432e7d1e893a63cfdcad9e74b076ef00ebc502232b789ddf2877e5ba8a03a", checked := Trym.checked }
namespace Rows
def none {H : Type} : Left H := { results := [], args := [] }

/-- 'zzlaws_root_b1.FnLeastTurnIsNecklaceTest': WHATEVER THE INPUT: true; the input reads as it did. -/
def fnLeastTurnIsNecklaceTestSpec : ChangeSpec := { name := "fnLeastTurnIsNecklaceTest", fn := fun _ => fun
  | [d] => { results := [.lit (.bool true)], args := [d] }
  | _ => none }
def fnLeastTurnIsNecklaceTestRow : OpenClaim := { program := "qxb6605466amods", sum := "62c432e7d1e893a63cfdcad9e74b076ef00ebc502232b789ddf2877e5ba8a03a", func := "example.com/ringmend/ringmend/zzlaws_root_b1.FnLeastTurnIsNecklaceTest", spec := "fnLeastTurnIsNecklaceTest", make := .lifted ["publicsums"], apart := false }
def FnLeastTurnIsNecklaceTestSaid : Prop := fnLeastTurnIsNecklaceTestRow.holds Trym.pinned (OpenSpec.ofChange fnLeastTurnIsNecklaceTestSpec)

/-- ITS FALSE NEIGHBOUR: 'it returns false'. Refute it at one input. -/
def fnLeastTurnIsNecklaceTestWrong : ChangeSpec := { name := "fnLeastTurnIsNecklaceTest", fn := fun _ => fun
  | [d] => { results := [.lit (.bool false)], args := [d] }
  | _ => none }
def FnLeastTurnIsNecklaceTestWrongFalsely : Prop := fnLeastTurnIsNecklaceTestRow.holds Trym.pinned (OpenSpec.ofChange fnLeastTurnIsNecklaceTestWrong)

/-- 'zzlaws_root_b1.FnFollowBestMatchesWalks': WHATEVER THE INPUT: true; the input reads as it did. -/
def fnFollowBestMatchesWalksSpec : ChangeSpec := { name := "fnFollowBestMatchesWalks", fn := fun _ => fun
  | [d] => { results := [.lit (.bool true)], args := [d] }
  | _ => none }
def fnFollowBestMatchesWalksRow : OpenClaim := { program := "qxb6605466amods", sum := "62c432e7d1e893a63cfdcad9e74b076ef00ebc502232b789ddf2877e5ba8a03a", func := "example.com/ringmend/ringmend/zzlaws_root_b1.FnFollowBestMatchesWalks", spec := "fnFollowBestMatchesWalks", make := .lifted ["publicsums"], apart := false }
def FnFollowBestMatchesWalksSaid : Prop := fnFollowBestMatchesWalksRow.holds Trym.pinned (OpenSpec.ofChange fnFollowBestMatchesWalksSpec)

/-- ITS FALSE NEIGHBOUR: 'it returns false'. Refute it at one input. -/
def fnFollowBestMatchesWalksWrong : ChangeSpec := { name := "fnFollowBestMatchesWalks", fn := fun _ => fun
  | [d] => { results := [.lit (.bool false)], args := [d] }
  | _ => none }
def FnFollowBestMatchesWalksWrongFalsely : Prop := fnFollowBestMatchesWalksRow.holds Trym.pinned (OpenSpec.ofChange fnFollowBestMatchesWalksWrong)

end Rows
end Go.Proofs.Qxb6605466aMods
