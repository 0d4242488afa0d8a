/-
  THE PROOF OF 'Rows.FnPathParameterFreshEachCallSaid'.
-/
import Derived.Test.Qxb6613032aModsRows
import Derived.Test.Qxb6613032aModsPathTwo
import Derived.Test.Qxb6613032aModsPathThree
import Derived.WalkKit
import Derived.ProofKit
import Derived.OpenShut
import Derived.ShutString
namespace Go.Proofs.Qxb6613032aMods.fnPathParameterFreshEachCall
open Go.ChangeShapes Go.WideShapes Go.ChangeAt Go.RowKit
open Go.ChangeMaps (open_string shut_string)
set_option linter.unusedVariables false      -- a walk need not use every 'w<i>' (that an integer argument fits its kind)

theorem own : ownKnob Trym.prog.godebug = none := by kernel_rfl

set_option maxRecDepth 100000 in
theorem walk_great (v3 : Bool) (name desc : ByteArray) (w : World) (hn : name.size ≤ 9223372036854775807) (hd : desc.size ≤ 9223372036854775807) (h : 524288 < name.size ∨ 524288 < desc.size) :
    Calls Trym.prog 3 #[.bool v3, .string name, .string desc] w fun e w' => e = .returned (.bool true) ∧ Below w.heap.size w w' := by
  by_cases h1 : 524288 < name.size
  · have hd1 : decide ((524288 : Int) < (name.size : Int)) = true := decide_eq_true (by omega)
    go_enter Trym.func3, Trym.ntmps3
    go_wp2_with fail
    refine (bytes_any v3 name desc w hn hd).mono ?_
    rintro e w0 ⟨⟨r, rfl⟩, rfl⟩
    cases r <;> (go_wp2; go_ret; exact ⟨rfl, Below.refl _ _⟩)
  · have hd1 : decide ((524288 : Int) < (name.size : Int)) = false := decide_eq_false (by omega)
    have hd2 : decide ((524288 : Int) < (desc.size : Int)) = true := decide_eq_true (by omega)
    go_enter Trym.func3, Trym.ntmps3
    go_wp2_with fail
    refine (bytes_any v3 name desc w hn hd).mono ?_
    rintro e w0 ⟨⟨r, rfl⟩, rfl⟩
    cases r <;> (go_wp2; go_ret; exact ⟨rfl, Below.refl _ _⟩)

theorem walk (a0 : Bool) (a1 : ByteArray) (a2 : ByteArray) (w1 : a1.size ≤ maxLen) (w2 : a2.size ≤ maxLen) (w : World) :
    Calls Trym.prog 3 #[.bool a0, .string a1, .string a2] w fun e w' => e = .returned (.bool true) ∧ Below w.heap.size w w' := by
  unfold maxLen at w1 w2
  by_cases h1 : a1.size ≤ 524288
  · by_cases h2 : a2.size ≤ 524288
    · cases a0
      · exact fnPath.walk_two a1 a2 w h1 h2
      · exact fnPath.walk_three a1 a2 w h1 h2
    · exact walk_great a0 a1 a2 w w1 w2 (Or.inr (by omega))
  · exact walk_great a0 a1 a2 w w1 w2 (Or.inl (by omega))

/-! ### THE ROW's STEP: WRITTEN OUT: LEAVE IT -/
set_option maxRecDepth 100000 in
theorem lifted (os : Os) (started : os.Started) (H : Type) (enc : TypeId × Value → H) :
    ReturnsInHanded {} Trym.checked os 3 .any (Rows.fnPathParameterFreshEachCallSpec.pre6 enc Trym.prog Trym.f3 Rows.fnPathParameterFreshEachCallRow.domain false) (Rows.fnPathParameterFreshEachCallSpec.post enc Trym.prog Trym.f3 false true false false) := by
  refine returnsInHanded_of_change (C := Trym.checked) own started (by kernel_rfl) Trym.func3
    (ChangeSpec.witness6 (enc := enc) (C := Trym.checked) false ⟨#[], #[.bool false, .string ByteArray.empty, .string ByteArray.empty], []⟩ 8 (by kernel_rfl) (by kernel_rfl) (by kernel_rfl) (by kernel_rfl)) ?_
  intro W base args ds gs before hval0 hW hcnd _
  have hval : ∀ (j : Nat) t v, Trym.f3.params[j]? = some t → args[j]? = some v → Value.okWide Trym.prog W .any base t v := hval0
  have hW' := hW
  obtain ⟨p, q, hA0, hV, rfl, hfz, hnd⟩ := hW
  have hA : DataW.TrodAll enc Trym.prog W 0 (fun _ => true) true Trym.f3.params.toList args.toList ds p := hA0
  rw [Trym.params3] at hA hval
  obtain ⟨v0, vs0, d0, ds0, p0, q0, hargs, rfl, rfl, h0, r0⟩ := trodAll_cons hA
  obtain ⟨v1, vs1, d1, ds1, p1, q1, rfl, rfl, rfl, h1, r1⟩ := trodAll_cons r0
  obtain ⟨v2, vs2, d2, ds2, p2, q2, rfl, rfl, rfl, h2, r2⟩ := trodAll_cons r1
  obtain ⟨rfl, rfl, rfl⟩ := trodAll_nil r2
  obtain rfl : args = #[v0, v1, v2] := by cases args; simp_all
  obtain ⟨rfl, rfl⟩ := trodVars_none hV
  obtain ⟨a0, rfl, rfl, rfl⟩ := open_bool Trym.underlying4 (hval 0 4 v0 rfl rfl) h0
  obtain ⟨a1, rfl, rfl, rfl, w1⟩ := open_string Trym.underlying9 (hval 1 9 v1 rfl rfl) h1
  obtain ⟨a2, rfl, rfl, rfl, w2⟩ := open_string Trym.underlying9 (hval 2 9 v2 rfl rfl) h2
  clear hA0 hval0
  refine (walk a0 a1 a2 w1 w2 W).mono fun e W' ⟨he, bel⟩ => ?_
  subst he
  exact ⟨_, rfl, _, _, _, [], _, [], hW', trodAll_mk1 (shut_bool Trym.underlying4 _), (trodAll_cons_mk (shut_bool Trym.underlying4 _) (trodAll_cons_mk (shut_string Trym.underlying9 w1) (trodAll_cons_mk (shut_string Trym.underlying9 w2) trodAll_mk0))), rfl, bel.frame _, fun h => by cases h⟩

theorem over : Rows.fnPathParameterFreshEachCallRow.holds Trym.pinned (OpenSpec.ofChange Rows.fnPathParameterFreshEachCallSpec) :=
  OpenClaim.holds_of_wide 3 Trym.f3 rfl rfl rfl rfl rfl rfl rfl ⟨rfl, rfl, rfl, rfl, rfl⟩ rfl rfl rfl rfl rfl (by kernel_rfl) Trym.func3 (by kernel_rfl)
    (of_decide_eq_true (by kernel_rfl)) (by unfold Func.isWrapper; first | (rw [if_pos (by decide +kernel)]; kernel_rfl) | (rw [if_neg (by decide +kernel)]; exact ⟨rfl, rfl⟩))
    (fun os started H enc _ => lifted os started H enc)

/-- ████ THE STATEMENT ████ -/
theorem proved : Rows.FnPathParameterFreshEachCallSaid :=
  over
end Go.Proofs.Qxb6613032aMods.fnPathParameterFreshEachCall
namespace Go.Proofs.Qxb6613032aMods
theorem fnPathParameterFreshEachCall_holds : Rows.FnPathParameterFreshEachCallSaid := fnPathParameterFreshEachCall.proved
end Go.Proofs.Qxb6613032aMods
