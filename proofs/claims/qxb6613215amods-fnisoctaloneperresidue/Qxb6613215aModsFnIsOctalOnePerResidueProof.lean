/-
  THE PROOF OF 'Rows.FnIsOctalOnePerResidueSaid'.
-/
import Derived.Test.Qxb6613215aModsRows
import Derived.Test.Qxb6613215aModsOct
import Derived.WalkKit
import Derived.ProofKit
import Derived.OpenShut
import Derived.ShutString
namespace Go.Proofs.Qxb6613215aMods.fnIsOctalOnePerResidue
open Go.ChangeShapes Go.WideShapes Go.ChangeAt Go.RowKit
open Go.ChangeMaps (open_string shut_string)
set_option linter.unusedVariables false      -- a walk need not use every 'w<i>' (that an integer argument fits its kind)

theorem own : ownKnob Trym.prog.godebug = none := by kernel_rfl

set_option maxHeartbeats 400000 in
theorem walk_nat (c : Nat) (hc : c < 256) (w : World) :
    Calls Trym.prog 4 #[.int .u8 c] w fun e w' => e = .returned (.bool true) ∧ Grown w w' := by
  have hw := residue c hc
  have HW : Hid (cnt8 c 32 = 1 ∧ fnd8 c 32 = 48 + c % 8) := hw
  clear hw
  go_enter Trym.func4, Trym.ntmps4
  go_wp2
  go_loop [3, 4, 5] (fun n f i => ∃ k : Nat, k ≤ 32 ∧ i = .int .i64 k ∧ n = .int .i64 (cnt8 c k) ∧ f = .int .u8 (fnd8 c k)) (fun _ _ i => 32 - (intOf i).toNat)
  case atStart => exact ⟨0, by omega, rfl, rfl, rfl⟩
  case round =>
    obtain ⟨k, hk, rfl, rfl, rfl⟩ := hrel
    have hl := cnt8_le c k
    by_cases hlt : k < 32
    · cases ho : oct ((c + 8 * k) % 256)
      · have HO : Hid (oct ((c + 8 * k) % 256) = false) := ho
        clear ho
        go_wp2_with (go_at_call 5; refine (zz_of _ ((c + 8 * k) % 256) (by omega) false HO.out _).mono ?_; rintro e w' ⟨rfl, rfl⟩)
        go_round
        case rel => exact ⟨k + 1, by omega, by go_num, by rw [(cnt8_no HO.out).1], by rw [(cnt8_no HO.out).2]⟩
        case measure => simp [intOf]; omega
      · have HO : Hid (oct ((c + 8 * k) % 256) = true) := ho
        clear ho
        go_wp2_with (go_at_call 5; refine (zz_of _ ((c + 8 * k) % 256) (by omega) true HO.out _).mono ?_; rintro e w' ⟨rfl, rfl⟩)
        go_round
        case rel => exact ⟨k + 1, by omega, by go_num, by rw [(cnt8_yes HO.out).1]; go_num, by rw [(cnt8_yes HO.out).2]; go_num⟩
        case measure => simp [intOf]; omega
    · obtain rfl : k = 32 := by omega
      have h1 : ((cnt8 c 32 : Nat) : Int) = 1 := by rw [HW.out.1]; rfl
      go_wp2
      go_ret
      refine ⟨?_, Grown.refl _⟩
      have h2 := HW.out.2
      simp
      omega

theorem walk (a0 : Int) (w0 : (Lit.int .u8 a0).wf = true) (w : World) :
    Calls Trym.prog 4 #[.int .u8 a0] w fun e w' => e = .returned (.bool true) ∧ Grown w w' := by
  have hb := bounds_u8 w0
  obtain ⟨c, rfl⟩ := Int.eq_ofNat_of_zero_le hb.1
  exact walk_nat c (by omega) w

/-! ### THE ROW's STEP: WRITTEN OUT: LEAVE IT -/
set_option maxRecDepth 100000 in
theorem lifted (os : Os) (started : os.Started) (H : Type) (enc : TypeId × Value → H) :
    ReturnsInHanded {} Trym.checked os 4 .any (Rows.fnIsOctalOnePerResidueSpec.pre6 enc Trym.prog Trym.f4 Rows.fnIsOctalOnePerResidueRow.domain false) (Rows.fnIsOctalOnePerResidueSpec.post enc Trym.prog Trym.f4 false true false false) := by
  refine returnsInHanded_of_change (C := Trym.checked) own started (by kernel_rfl) Trym.func4
    (ChangeSpec.witness6 (enc := enc) (C := Trym.checked) false ⟨#[], #[.int .u8 0], []⟩ 8 (by kernel_rfl) (by kernel_rfl) (by kernel_rfl) (by kernel_rfl)) ?_
  intro W base args ds gs before hval0 hW hcnd _
  have hval : ∀ (j : Nat) t v, Trym.f4.params[j]? = some t → args[j]? = some v → Value.okWide Trym.prog W .any base t v := hval0
  have hW' := hW
  obtain ⟨p, q, hA0, hV, rfl, hfz, hnd⟩ := hW
  have hA : DataW.TrodAll enc Trym.prog W 0 (fun _ => true) true Trym.f4.params.toList args.toList ds p := hA0
  rw [Trym.params4] at hA hval
  obtain ⟨v0, vs0, d0, ds0, p0, q0, hargs, rfl, rfl, h0, r0⟩ := trodAll_cons hA
  obtain ⟨rfl, rfl, rfl⟩ := trodAll_nil r0
  obtain rfl : args = #[v0] := by cases args; simp_all
  obtain ⟨rfl, rfl⟩ := trodVars_none hV
  obtain ⟨a0, rfl, rfl, rfl, w0⟩ := open_int Trym.underlying5 (hval 0 5 v0 rfl rfl) h0
  clear hA0 hval0
  simp only [List.append_nil] at hW'
  refine (walk a0 w0 W).mono fun e W' ⟨he, hg⟩ => ?_
  subst he
  exact ⟨_, rfl, post_of_same (pa := []) (pv := []) hW' (fun _ _ _ => (trodAll_cons_mk (shut_bool Trym.underlying4 _) trodAll_mk0)) (fun sp _ => (trodAll_cons_mk (shut_int Trym.underlying5 w0) trodAll_mk0)) (fun _ _ => rfl) rfl
    (hg.frame _) hg.2.1 (ok_one (by kernel_rfl) rfl (okWide_bool_mk Trym.underlying4 _))⟩

theorem over : Rows.fnIsOctalOnePerResidueRow.holds Trym.pinned (OpenSpec.ofChange Rows.fnIsOctalOnePerResidueSpec) :=
  OpenClaim.holds_of_wide 4 Trym.f4 rfl rfl rfl rfl rfl rfl rfl ⟨rfl, rfl, rfl, rfl, rfl⟩ rfl rfl rfl rfl rfl (by kernel_rfl) Trym.func4 (by kernel_rfl)
    (of_decide_eq_true (by kernel_rfl)) (by unfold Func.isWrapper; first | (rw [if_pos (by decide +kernel)]; kernel_rfl) | (rw [if_neg (by decide +kernel)]; exact ⟨rfl, rfl⟩))
    (fun os started H enc _ => lifted os started H enc)

/-- ████ THE STATEMENT ████ -/
theorem proved : Rows.FnIsOctalOnePerResidueSaid :=
  over
end Go.Proofs.Qxb6613215aMods.fnIsOctalOnePerResidue
namespace Go.Proofs.Qxb6613215aMods
theorem fnIsOctalOnePerResidue_holds : Rows.FnIsOctalOnePerResidueSaid := fnIsOctalOnePerResidue.proved
end Go.Proofs.Qxb6613215aMods
