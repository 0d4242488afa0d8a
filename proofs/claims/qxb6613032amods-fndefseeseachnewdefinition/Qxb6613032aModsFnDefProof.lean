/-
  THE PROOF OF 'Rows.FnDefSeesEachNewDefinitionSaid'.
-/
import Derived.Test.Qxb6613032aModsRows
import Derived.Test.Qxb6613032aModsDefTwo
import Derived.Test.Qxb6613032aModsDefThree
import Derived.WalkKit
import Derived.ProofKit
import Derived.OpenShut
import Derived.ShutString
import Derived.ChangeOld
import Derived.Below
import Derived.SliceStrings
namespace Go.Proofs.Qxb6613032aMods.fnDef
open Go.ChangeShapes Go.WideShapes Go.ChangeAt Go.RowKit
open Go.ChangeMaps (open_string shut_string)
open Go.Proofs.Qxb6613032aMods.Def (IsStrs)
set_option linter.unusedVariables false

theorem own : ownKnob Trym.prog.godebug = none := by kernel_rfl
theorem laidOut : laidOutB Trym.prog = true := by kernel_rfl

theorem walk (v3 : Bool) (ao : Option Addr) (n c b off : Nat) (S : Nat → ByteArray) (w : World) (hS : IsStrs w ao n b off S) :
    Calls Trym.prog 4 #[.bool v3, .slice ao n c] w fun e w' => e = .returned (.bool true) ∧ Below w.heap.size w w' := by
  cases v3
  · exact DefTwo.walk ao n c b off S w hS
  · exact DefThree.walk ao n c b off S w hS

set_option maxRecDepth 100000 in
theorem lifted (os : Os) (started : os.Started) (H : Type) (enc : TypeId × Value → H) :
    ReturnsInHanded {} Trym.checked os 4 .any (Rows.fnDefSeesEachNewDefinitionSpec.pre6 enc Trym.prog Trym.f4 Rows.fnDefSeesEachNewDefinitionRow.domain false) (Rows.fnDefSeesEachNewDefinitionSpec.post enc Trym.prog Trym.f4 false true false false) := by
  refine returnsInHanded_of_change (C := Trym.checked) own started (by kernel_rfl) Trym.func4
    (ChangeSpec.witness6 (enc := enc) (C := Trym.checked) false ⟨#[], #[.bool false, .slice none 0 0], []⟩ 8 (by kernel_rfl) (by kernel_rfl) (by kernel_rfl) (by kernel_rfl)) ?_
  intro W base args ds gs before hval0 hW hcnd _
  have hval : ∀ (j : Nat) t v, Trym.f4.params[j]? = some t → args[j]? = some v → Value.okWide Trym.prog W .any base t v := hval0
  have hW' := hW
  obtain ⟨p, q, hA0, hV, rfl, hfz, hnd⟩ := hW
  have hA : DataW.TrodAll enc Trym.prog W 0 (fun _ => true) true Trym.f4.params.toList args.toList ds p := hA0
  rw [Trym.params4] at hA hval
  obtain ⟨v0, vs0, d0, ds0, p0, q0, hargs, rfl, rfl, h0, r0⟩ := trodAll_cons hA
  obtain ⟨v1, vs1, d1, ds1, p1, q1, rfl, rfl, rfl, h1, r1⟩ := trodAll_cons r0
  obtain ⟨rfl, rfl, rfl⟩ := trodAll_nil r1
  obtain rfl : args = #[v0, v1] := by cases args; simp_all
  obtain ⟨rfl, rfl⟩ := trodVars_none hV
  obtain ⟨a0, rfl, rfl, rfl⟩ := open_bool Trym.underlying4 (hval 0 4 v0 rfl rfl) h0
  obtain ⟨a1, len1, cap1, rfl⟩ := okWide_slice Trym.underlying35 (hval 1 35 v1 rfl rfl)
  have k1 := h1
  have lt1 : ∀ x ∈ p1, x.block < W.heap.size := by obtain ⟨m, hm⟩ := k1; exact DataW.trod_lt m _ _ _ hm
  obtain ⟨b, off, S, wS⟩ : ∃ b off S, IsStrs W a1 len1 b off S := by
    obtain ⟨fuel, hf⟩ := h1
    rcases open_strings Trym.underlying35 Trym.underlying9 (by kernel_rfl) hf with ⟨hcs, _⟩ | ⟨x, l, c, ss, hcs, _, hl, hm, hz, _, hcell, hws⟩
    · simp [Value.cells] at hcs
      obtain ⟨rfl, rfl, rfl⟩ := hcs
      exact ⟨0, 0, fun _ => ByteArray.empty, by omega, fun h => by omega, fun j hj => by omega, fun j hj => by omega⟩
    · simp [Value.cells] at hcs
      obtain ⟨rfl, rfl, rfl⟩ := hcs
      unfold maxLen at hm hws
      simp only [if_true] at hz
      obtain ⟨b, off, spot⟩ := x
      have hspot : 0 < len1 → spot = none := fun h => by simpa [Addr.add] using World.cell?_spot (hcell 0 (by omega))
      refine ⟨b, off, fun j => ss.getD j ByteArray.empty, by omega, fun h => by rw [hspot h], fun j hj => ?_, fun j hj => ?_⟩
      · have hsn := hspot (by omega)
        subst hsn
        rw [← add_plain]
        exact hcell j (by omega)
      · refine hws _ ?_
        have hj' : j < ss.length := by omega
        simp [List.getD, List.getElem?_eq_getElem hj']
  clear hA0 hval0
  refine (walk a0 a1 len1 cap1 b off S W wS).mono fun e W' ⟨he, bel⟩ => ?_
  subst he
  exact ⟨_, rfl, _, _, _, [], _, [], hW', trodAll_mk1 (shut_bool Trym.underlying4 _), (trodAll_cons_mk (shut_bool Trym.underlying4 _) (trodAll_cons_mk (Below.trod laidOut (by kernel_rfl) (of_decide_eq_true (by kernel_rfl)) k1 bel lt1) trodAll_mk0)), rfl, bel.frame _, fun h => by cases h⟩

theorem over : Rows.fnDefSeesEachNewDefinitionRow.holds Trym.pinned (OpenSpec.ofChange Rows.fnDefSeesEachNewDefinitionSpec) :=
  OpenClaim.holds_of_wide 4 Trym.f4 rfl rfl rfl rfl rfl rfl rfl ⟨rfl, rfl, rfl, rfl, rfl⟩ rfl rfl rfl rfl rfl (by kernel_rfl) Trym.func4 (by kernel_rfl)
    (of_decide_eq_true (by kernel_rfl)) (by unfold Func.isWrapper; first | (rw [if_pos (by decide +kernel)]; kernel_rfl) | (rw [if_neg (by decide +kernel)]; exact ⟨rfl, rfl⟩))
    (fun os started H enc _ => lifted os started H enc)
end Go.Proofs.Qxb6613032aMods.fnDef
namespace Go.Proofs.Qxb6613032aMods
theorem fnDefSeesEachNewDefinition_holds : Rows.FnDefSeesEachNewDefinitionSaid := fnDef.over
end Go.Proofs.Qxb6613032aMods
