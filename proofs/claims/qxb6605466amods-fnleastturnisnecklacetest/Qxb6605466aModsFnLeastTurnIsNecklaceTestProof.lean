/-
  THE PROOF OF 'Rows.FnLeastTurnIsNecklaceTestSaid'.
-/
import Derived.Test.Qxb6605466aModsRows
import Derived.Test.Qxb6605466aModsClone
import Derived.Test.Qxb6605466aModsWalkN
import Derived.WalkKit
import Derived.ProofKit
import Derived.OpenShut
import Derived.ShutString
import Derived.ChangeOld
import Derived.Below
namespace Go.Proofs.Qxb6605466aMods.fnLeastTurnIsNecklaceTest
open Go.ChangeShapes Go.WideShapes Go.ChangeAt Go.RowKit
open Go.ChangeMaps (open_string shut_string)
set_option linter.unusedVariables false

theorem own : ownKnob Trym.prog.godebug = none := by kernel_rfl
theorem laidOut : laidOutB Trym.prog = true := by kernel_rfl

/-- WHAT THE WALK IS TOLD OF A SLICE OF INTEGERS THAT CAME IN: it is nil; or it leads to a row of 'cap' cells, the numbers 'zs' (the first 'len' are its elements, the rest its spare room), each fitting its kind. -/
def IsRow (k : IntKind) (w : World) (a : Option Addr) (len cap : Nat) (zs : List Int) : Prop :=
  (a = none ∧ len = 0 ∧ cap = 0 ∧ zs = []) ∨
  ∃ x, a = some x ∧ len ≤ cap ∧ cap ≤ maxLen ∧ zs.length = cap ∧ (∀ i, i < zs.length → w.cell? (x.add i) = some (.int k (zs.getD i 0))) ∧ ∀ n ∈ zs, (Lit.int k n).wf = true

theorem bytes_any (ao : Option Addr) (n c : Nat) (w : World) (hn : n ≤ 1048576) :
    Calls Trym.prog 5 #[.slice ao n c] w fun e w' => e = .returned (.bool true) ∧ w' = w := by
  go_enter Trym.func5, Trym.ntmps5
  go_wp2
  go_ret
  exact ⟨rfl, rfl⟩

theorem bytes_great (ao : Option Addr) (n c : Nat) (w : World) (hn : 1048576 < n) (hm : n ≤ 9223372036854775807) :
    Calls Trym.prog 5 #[.slice ao n c] w fun e w' => e = .returned (.bool false) ∧ w' = w := by
  go_enter Trym.func5, Trym.ntmps5
  go_wp2
  go_ret
  exact ⟨rfl, rfl⟩

theorem max_any (w : World) : Calls Trym.prog 6 #[] w fun e w' => e = .returned (.int .i64 9223372036854775807) ∧ w' = w := by
  go_enter Trym.func6, Trym.ntmps6
  go_wp2
  go_ret
  exact ⟨rfl, rfl⟩

theorem zz_any (b off n c : Nat) (a : Nat → Int) (w : World) (hn : n ≤ 4096) (hn1 : 1 ≤ n) (hc : ∀ j, j < n → w.cell? ⟨b, off + j, none⟩ = some (.int .i64 (a j)))
    (hb : ∀ j, j < n → a j ≤ 4611686018427387903 ∧ -4611686018427387903 ≤ a j) :
    Calls Trym.prog 8 #[.slice (some ⟨b, off, none⟩) n c] w fun e w' => (∃ r : Bool, e = .returned (.bool r) ∧ (r = true ↔ Neck.Least a n)) ∧ ∃ q, w' = w.drewN q := by
  go_enter Trym.func8, Trym.ntmps8
  go_wp2_with (go_at_call 15; refine (turn_any b off n c a _ hn hn1 hc hb).mono ?_; rintro e w' ⟨⟨r, rfl, hr⟩, q, rfl⟩; have hr' : Hid (r = true ↔ Neck.Least a n) := hr; clear hr)
  go_ret
  exact ⟨⟨_, rfl, hr'.out⟩, _, rfl⟩

theorem zz_nil (ao : Option Addr) (c : Nat) (w : World) :
    Calls Trym.prog 8 #[.slice ao 0 c] w fun e w' => e = .returned (.bool true) ∧ w' = w := by
  go_enter Trym.func8, Trym.ntmps8
  go_wp2_with (go_at_call 15; refine (turn_nil ao c _).mono ?_; rintro e w' ⟨rfl, rfl⟩)
  go_ret
  exact ⟨rfl, rfl⟩

theorem walk_great (ao : Option Addr) (n c : Nat) (w : World) (hn : 4096 < n) (hm : n ≤ 9223372036854775807) :
    Calls Trym.prog 3 #[.slice ao n c] w fun e w' => e = .returned (.bool true) ∧ Below w.heap.size w w' := by
  by_cases h : n ≤ 1048576
  · go_enter Trym.func3, Trym.ntmps3
    go_wp2_with (go_at_call 5; refine (bytes_any ao n c _ h).mono ?_; rintro e w' ⟨rfl, rfl⟩)
    go_ret
    exact ⟨rfl, Below.refl _ _⟩
  · go_enter Trym.func3, Trym.ntmps3
    go_wp2_with (go_at_call 5; refine (bytes_great ao n c _ (by omega) hm).mono ?_; rintro e w' ⟨rfl, rfl⟩)
    go_ret
    exact ⟨rfl, Below.refl _ _⟩

theorem walk_none (w : World) :
    Calls Trym.prog 3 #[.slice none 0 0] w fun e w' => e = .returned (.bool true) ∧ Below w.heap.size w w' := by
  go_enter Trym.func3, Trym.ntmps3
  go_wp2_with (first | (go_at_call 5; refine (bytes_any none 0 0 _ (by omega)).mono ?_; rintro e w' ⟨rfl, rfl⟩) | (go_at_call 6; refine (max_any _).mono ?_; rintro e w' ⟨rfl, rfl⟩))
  go_loop [4] (fun i => i = .int .i64 0) (fun i => 0)
  case atStart => rfl
  case round =>
    subst hrel
    go_wp2_with (first | (go_at_call 7; refine (clone_nil _).mono ?_; rintro e w' ⟨rfl, rfl⟩) | (go_at_call 8; refine (zz_nil none 0 _).mono ?_; rintro e w' ⟨rfl, rfl⟩) | (go_at_call 9; refine (neck_nil none 0 _).mono ?_; rintro e w' ⟨rfl, rfl⟩))
    go_ret
    exact ⟨rfl, Below.refl _ _⟩

set_option maxHeartbeats 400000 in
theorem walk_some (x : Addr) (b off n c : Nat) (a : Nat → Int) (w : World) (hn : n ≤ 4096) (hx : Hid (0 < n → x = ⟨b, off, none⟩)) (hc : ∀ j, j < n → w.cell? ⟨b, off + j, none⟩ = some (.int .i64 (a j))) :
    Calls Trym.prog 3 #[.slice (some x) n c] w fun e w' => e = .returned (.bool true) ∧ Below w.heap.size w w' := by
  have hd0 : decide ((4096 : Int) < (n : Int)) = false := decide_eq_false (by omega)
  go_enter Trym.func3, Trym.ntmps3
  go_wp2_with (first | (go_at_call 5; refine (bytes_any (some x) n c _ (by omega)).mono ?_; rintro e w' ⟨rfl, rfl⟩) | (go_at_call 6; refine (max_any _).mono ?_; rintro e w' ⟨rfl, rfl⟩))
  go_loop [4] (fun i => ∃ k : Nat, k ≤ n ∧ i = .int .i64 k ∧ ∀ j, j < k → a j ≤ 4611686018427387903 ∧ -4611686018427387903 ≤ a j) (fun i => n - (intOf i).toNat)
  case atStart => exact ⟨0, by omega, rfl, fun j hj => absurd hj (by omega)⟩
  case round =>
    obtain ⟨k, hk, rfl, HS⟩ := hrel
    have HS2 : Hid (∀ j, j < k → a j ≤ 4611686018427387903 ∧ -4611686018427387903 ≤ a j) := HS
    clear HS
    by_cases hlt : k < n
    · obtain rfl := hx.out (by omega)
      have h0 := hc k hlt
      go_wp2
      · go_ret
        exact ⟨rfl, Below.refl _ _⟩
      · have hb1 : a k ≤ 4611686018427387903 ∧ -4611686018427387903 ≤ a k := by assumption
        go_round
        case rel =>
          refine ⟨k + 1, by omega, by go_num, fun j hj => ?_⟩
          by_cases h : j < k
          · exact HS2.out j h
          · have : j = k := by omega
            subst this; exact hb1
        case measure => simp [intOf]; omega
      · go_ret
        exact ⟨rfl, Below.refl _ _⟩
    · have hkn : k = n := by omega
      clear hlt hk
      subst hkn
      go_wp2_with fail
      refine (clone_any x b off k c a _ hn hx hc).mono ?_
      rintro e w1 ⟨rfl, HR, HB, -⟩
      have hc1 : ∀ j, j < k → w1.cell? ⟨w'.heap.size, 0 + j, none⟩ = some (.int .i64 (a j)) := fun j hj => by rw [Nat.zero_add]; exact HR.cell hj
      have HC : Hid (∀ j, j < k → w1.cell? ⟨w'.heap.size, 0 + j, none⟩ = some (.int .i64 (a j))) := hc1
      clear hc1
      by_cases hk0 : k = 0
      · subst hk0
        go_wp2_with (first | (go_at_call 8; refine (zz_nil _ 0 _).mono ?_; rintro e w2 ⟨rfl, rfl⟩) | (go_at_call 9; refine (neck_nil _ 0 _).mono ?_; rintro e w2 ⟨rfl, rfl⟩))
        go_ret
        exact ⟨rfl, HB⟩
      · go_wp2_with fail
        refine (zz_any w'.heap.size 0 k k a w1 hn (by omega) HC.out HS2.out).mono ?_
        rintro e w2 ⟨⟨r1, rfl, hr1⟩, q1, rfl⟩
        have R1 : Hid (r1 = true ↔ Neck.Least a k) := hr1
        clear hr1
        go_wp2_with fail
        refine (neck_any w'.heap.size 0 k k a (w1.drewN q1) hn (by omega) (by intro j hj; simpa using HC.out j hj)).mono ?_
        rintro e w2 ⟨⟨r2, rfl, hr2⟩, q2, rfl⟩
        have hrr : r1 = r2 := by rw [Bool.eq_iff_iff, R1.out, hr2]
        clear hr2 R1
        subst hrr
        go_wp2
        go_ret
        refine ⟨by simp, ?_⟩
        exact below_drewN HB _


theorem walk (a0 : Option Addr) (len0 cap0 : Nat) (z0 : List Int) (w : World) (w0 : IsRow .i64 w a0 len0 cap0 z0) :
    Calls Trym.prog 3 #[.slice a0 len0 cap0] w fun e w' => e = .returned (.bool true) ∧ Below w.heap.size w w' := by
  rcases w0 with ⟨rfl, rfl, rfl, rfl⟩ | ⟨x, rfl, hlc, hcm, hzl, hcell, hwf⟩
  · exact walk_none w
  · unfold maxLen at hcm
    by_cases hn : len0 ≤ 4096
    · obtain ⟨b, off, spot⟩ := x
      refine walk_some ⟨b, off, spot⟩ b off len0 cap0 (fun j => z0.getD j 0) w hn ?_ ?_
      · intro h
        have := hcell 0 (by omega)
        have hspot : spot = none := by simpa [Addr.add] using World.cell?_spot this
        rw [hspot]
      · intro j hj
        have h1 := hcell j (by omega)
        have hspot : spot = none := by simpa [Addr.add] using World.cell?_spot (hcell 0 (by omega))
        subst hspot
        rw [← add_plain]; exact h1
    · exact walk_great (some x) len0 cap0 w (by omega) (by omega)

/-! ### THE ROW's STEP: WRITTEN OUT: LEAVE IT -/
set_option maxRecDepth 100000 in
theorem lifted (os : Os) (started : os.Started) (H : Type) (enc : TypeId × Value → H) :
    ReturnsInHanded {} Trym.checked os 3 .any (Rows.fnLeastTurnIsNecklaceTestSpec.pre6 enc Trym.prog Trym.f3 Rows.fnLeastTurnIsNecklaceTestRow.domain false) (Rows.fnLeastTurnIsNecklaceTestSpec.post enc Trym.prog Trym.f3 false true false false) := by
  refine returnsInHanded_of_change (C := Trym.checked) own started (by kernel_rfl) Trym.func3
    (ChangeSpec.witness6 (enc := enc) (C := Trym.checked) false ⟨#[], #[.slice none 0 0], []⟩ 8 (by kernel_rfl) (by kernel_rfl) (by kernel_rfl) (by kernel_rfl)) ?_
  intro W base args ds gs before hval0 hW hcnd _
  have hval : ∀ (j : Nat) t v, Trym.f3.params[j]? = some t → args[j]? = some v → Value.okWide Trym.prog W .any base t v := hval0
  have hW' := hW
  obtain ⟨p, q, hA0, hV, rfl, hfz, hnd⟩ := hW
  have hA : DataW.TrodAll enc Trym.prog W 0 (fun _ => true) true Trym.f3.params.toList args.toList ds p := hA0
  rw [Trym.params3] at hA hval
  obtain ⟨v0, vs0, d0, ds0, p0, q0, hargs, rfl, rfl, h0, r0⟩ := trodAll_cons hA
  obtain ⟨rfl, rfl, rfl⟩ := trodAll_nil r0
  obtain rfl : args = #[v0] := by cases args; simp_all
  obtain ⟨rfl, rfl⟩ := trodVars_none hV
  obtain ⟨a0, len0, cap0, rfl⟩ := okWide_slice Trym.underlying22 (hval 0 22 v0 rfl rfl)
  have k0 := h0
  have lt0 : ∀ x ∈ p0, x.block < W.heap.size := by obtain ⟨m, hm⟩ := k0; exact DataW.trod_lt m _ _ _ hm
  obtain ⟨z0, w0⟩ : ∃ zs, IsRow .i64 W a0 len0 cap0 zs := by
    obtain ⟨fuel, hf⟩ := h0
    rcases open_ints Trym.underlying22 Trym.underlying3 (by kernel_rfl) hf with ⟨hcs, _⟩ | ⟨x, l, c, zs, hcs, _, hl, hm, hz, _, hcell, hwz⟩
    · simp [Value.cells] at hcs
      obtain ⟨rfl, rfl, rfl⟩ := hcs
      exact ⟨[], .inl ⟨rfl, rfl, rfl, rfl⟩⟩
    · simp [Value.cells] at hcs
      obtain ⟨rfl, rfl, rfl⟩ := hcs
      exact ⟨zs, .inr ⟨_, rfl, hl, hm, by simpa using hz, hcell, hwz⟩⟩
  clear hA0 hval0
  refine (walk a0 len0 cap0 z0 W w0).mono fun e W' ⟨he, bel⟩ => ?_
  subst he
  exact ⟨_, rfl, _, _, _, [], _, [], hW', trodAll_mk1 (shut_bool Trym.underlying4 _), (trodAll_cons_mk (Below.trod laidOut (by kernel_rfl) (of_decide_eq_true (by kernel_rfl)) k0 bel lt0) trodAll_mk0), rfl, bel.frame _, fun h => by cases h⟩

theorem over : Rows.fnLeastTurnIsNecklaceTestRow.holds Trym.pinned (OpenSpec.ofChange Rows.fnLeastTurnIsNecklaceTestSpec) :=
  OpenClaim.holds_of_wide 3 Trym.f3 rfl rfl rfl rfl rfl rfl rfl ⟨rfl, rfl, rfl, rfl, rfl⟩ rfl rfl rfl rfl rfl (by kernel_rfl) Trym.func3 (by kernel_rfl)
    (of_decide_eq_true (by kernel_rfl)) (by unfold Func.isWrapper; first | (rw [if_pos (by decide +kernel)]; kernel_rfl) | (rw [if_neg (by decide +kernel)]; exact ⟨rfl, rfl⟩))
    (fun os started H enc _ => lifted os started H enc)

/-- ████ THE STATEMENT ████ -/
theorem proved : Rows.FnLeastTurnIsNecklaceTestSaid := over
end Go.Proofs.Qxb6605466aMods.fnLeastTurnIsNecklaceTest
namespace Go.Proofs.Qxb6605466aMods
theorem fnLeastTurnIsNecklaceTest_holds : Rows.FnLeastTurnIsNecklaceTestSaid := fnLeastTurnIsNecklaceTest.proved
end Go.Proofs.Qxb6605466aMods
