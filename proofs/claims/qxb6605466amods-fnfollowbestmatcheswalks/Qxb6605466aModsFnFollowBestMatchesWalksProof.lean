/-
  THE PROOF OF 'Rows.FnFollowBestMatchesWalksSaid'.
-/
import Derived.Test.Qxb6605466aModsRows
import Derived.Test.Qxb6605466aModsClone
import Derived.Test.Qxb6605466aModsWalkB
import Derived.Test.Qxb6605466aModsFollow
import Derived.Deep.QuietTactic
import Derived.BigQuiet
import Derived.WalkKit
import Derived.ProofKit
import Derived.OpenShut
import Derived.ShutString
import Derived.ChangeOld
import Derived.Below
namespace Go.Proofs.Qxb6605466aMods.fnFollowBestMatchesWalks
open Go.ChangeShapes Go.WideShapes Go.ChangeAt Go.RowKit
open Go.ChangeMaps (open_string shut_string)
set_option linter.unusedVariables false

theorem own : ownKnob Trym.prog.godebug = none := by kernel_rfl
theorem laidOut : laidOutB Trym.prog = true := by kernel_rfl

/-- WHAT THE WALK IS TOLD OF A SLICE OF INTEGERS THAT CAME IN: it is nil; or it leads to a row of 'cap' cells, the numbers 'zs' (the first 'len' are its elements, the rest its spare room), each fitting its kind. -/
def IsRow (k : IntKind) (w : World) (a : Option Addr) (len cap : Nat) (zs : List Int) : Prop :=
  (a = none ∧ len = 0 ∧ cap = 0 ∧ zs = []) ∨
  ∃ x, a = some x ∧ len ≤ cap ∧ cap ≤ maxLen ∧ zs.length = cap ∧ (∀ i, i < zs.length → w.cell? (x.add i) = some (.int k (zs.getD i 0))) ∧ ∀ n ∈ zs, (Lit.int k n).wf = true

open Ring (OnR Goes Lst)

theorem Ans_eq {e : Ending} {p : Prop} {r : Bool} (h : Ans e p) (hr : r = true ↔ p) : e = .returned (.bool r) := by
  obtain ⟨r', rfl, h'⟩ := h
  have : r' = r := by rw [Bool.eq_iff_iff, h', hr]
  rw [this]

theorem bytes_any (ao : Option Addr) (n c : Nat) (w : World) (hn : n ≤ 1048576) :
    Calls Trym.prog 10 #[.slice ao n c] w fun e w' => e = .returned (.bool true) ∧ w' = w := by
  go_enter Trym.func10, Trym.ntmps10
  go_wp2
  go_ret
  exact ⟨rfl, rfl⟩

theorem bytes_great (ao : Option Addr) (n c : Nat) (w : World) (hn : 1048576 < n) (hm : n ≤ 9223372036854775807) :
    Calls Trym.prog 10 #[.slice ao n c] w fun e w' => e = .returned (.bool false) ∧ w' = w := by
  go_enter Trym.func10, Trym.ntmps10
  go_wp2
  go_ret
  exact ⟨rfl, rfl⟩

theorem walk_great (ao : Option Addr) (n c : Nat) (w : World) (hn : 4096 < n) (hm : n ≤ 9223372036854775807) :
    Calls Trym.prog 4 #[.slice ao n c] w fun e w' => e = .returned (.bool true) ∧ Below w.heap.size w w' := by
  by_cases h : n ≤ 1048576
  · go_enter Trym.func4, Trym.ntmps4
    go_wp2_with (go_at_call 10; refine (bytes_any ao n c _ h).mono ?_; rintro e w' ⟨rfl, rfl⟩)
    go_ret
    exact ⟨rfl, Below.refl _ _⟩
  · go_enter Trym.func4, Trym.ntmps4
    go_wp2_with (go_at_call 10; refine (bytes_great ao n c _ (by omega) hm).mono ?_; rintro e w' ⟨rfl, rfl⟩)
    go_ret
    exact ⟨rfl, Below.refl _ _⟩

/-- The clone, for every slice that came in. -/
theorem clone_each (ao : Option Addr) (b off n c : Nat) (f : Nat → Int) (w : World) (hn : n ≤ 4096) (hnil : ao = none → n = 0 ∧ c = 0) (hx : Hid (0 < n → ao = some ⟨b, off, none⟩)) (hc : ∀ j, j < n → w.cell? ⟨b, off + j, none⟩ = some (.int .i64 (f j))) :
    Calls Trym.prog 7 #[.slice ao n c] w fun e w' => ∃ ao' c', e = .returned (.slice ao' n c') ∧ Below w.heap.size w w' ∧ (0 < n → ao' = some ⟨w.heap.size, 0, none⟩ ∧ w.heap.size < w'.heap.size) ∧ ∀ j, j < n → w'.cell? ⟨w.heap.size, 0 + j, none⟩ = some (.int .i64 (f j)) := by
  cases ao with
  | none =>
    obtain ⟨rfl, rfl⟩ := hnil rfl
    refine (clone_nil w).mono ?_
    rintro e w' ⟨rfl, rfl⟩
    exact ⟨none, 0, rfl, Below.refl _ _, fun h => by omega, fun j hj => by omega⟩
  | some x =>
    refine (clone_any x b off n c f w hn (fun h => by simpa using hx.out h) hc).mono ?_
    rintro e w' ⟨rfl, HR, HB, HZ⟩
    exact ⟨_, _, rfl, HB, fun _ => ⟨rfl, by omega⟩, fun j hj => by rw [Nat.zero_add]; exact HR.cell hj⟩

set_option maxHeartbeats 800000 in
set_option maxRecDepth 100000 in
theorem walk_each (ao : Option Addr) (b off n c : Nat) (f : Nat → Int) (w : World) (hn : n ≤ 4096) (hnil : Hid (ao = none → n = 0 ∧ c = 0)) (hx : Hid (0 < n → ao = some ⟨b, off, none⟩)) (hc : Hid (∀ j, j < n → w.cell? ⟨b, off + j, none⟩ = some (.int .i64 (f j)))) :
    Calls Trym.prog 4 #[.slice ao n c] w fun e w' => e = .returned (.bool true) ∧ Below w.heap.size w w' := by
  have hd0 : decide ((4096 : Int) < (n : Int)) = false := decide_eq_false (by omega)
  go_enter Trym.func4, Trym.ntmps4
  go_wp2_with (go_at_call 10; refine (bytes_any ao n c _ (by omega)).mono ?_; rintro e w' ⟨rfl, rfl⟩)
  go_loop [4] (fun i => ∃ k : Nat, k ≤ n ∧ i = .int .i64 k ∧ ∀ j, j < k → f j < n) (fun i => n - (intOf i).toNat)
  case atStart => exact ⟨0, by omega, rfl, fun j hj => by omega⟩
  case round =>
    obtain ⟨k, hk, rfl, HS⟩ := hrel
    have HS2 : Hid (∀ j, j < k → f j < n) := HS
    clear HS
    by_cases hlt : k < n
    · obtain rfl := hx.out (by omega)
      have h0 := hc.out k hlt
      go_wp2
      · go_ret
        exact ⟨rfl, Below.refl _ _⟩
      · have hfk : f k < n := by assumption
        go_round
        case rel =>
          refine ⟨k + 1, by omega, by go_num, fun j hj => ?_⟩
          by_cases h : j < k
          · exact HS2.out j h
          · obtain rfl : j = k := by omega
            exact hfk
        case measure => simp [intOf]; omega
    · obtain rfl : k = n := by omega
      have hd1 : decide ((k : Int) < (k : Int)) = false := decide_eq_false (by omega)
      go_wp2_with fail
      refine (clone_each ao b off k c f _ hn hnil.out hx hc.out).mono ?_
      rintro e w1 ⟨ao1, c1, rfl, HB1, hx1, hc1⟩
      have HX1 : Hid (0 < k → ao1 = some ⟨w'.heap.size, 0, none⟩ ∧ w'.heap.size < w1.heap.size) := hx1
      have HC1 : Hid (∀ j, j < k → w1.cell? ⟨w'.heap.size, 0 + j, none⟩ = some (.int .i64 (f j))) := hc1
      clear hx1 hc1
      go_wp2_with fail
      refine (zzfollow_any ao1 w'.heap.size 0 k c1 f w1 hn HX1 HS2 HC1).mono ?_
      rintro e w2 ⟨ring, reach, R, rfl, HF⟩
      have hRn := HF.cnt.le
      have hbn : ((k : Int) != (k : Int)) = false := by simp
      go_wp2_with fail
      go_loopw [8, 9] (fun x i wr => ∃ i' W q : Nat, i' ≤ k ∧ i = .int .i64 i' ∧ x = .int .i64 W ∧ Ring.Cnt (fun j : Nat => OnR f j ∧ Lst f j) i' W ∧ wr = w2.drewN q) (fun _ i _ => k - (intOf i).toNat)
      case atStart => exact ⟨0, 0, 0, by omega, rfl, rfl, rfl, rfl⟩
      case round =>
        obtain ⟨i, W, q, hik, rfl, rfl, HCN, hwr⟩ := hrel
        have HWR : Hid (wr = w2.drewN q) := hwr
        clear hwr
        have hWi := HCN.le
        by_cases hi : i < k
        · obtain ⟨rfl, hbs⟩ := HX1.out (by omega)
          have hcb : ∀ q', ∀ j, j < k → (wr.drewN q').cell? ⟨w'.heap.size, 0 + j, none⟩ = some (.int .i64 (f j)) := fun q' j hj => by
            rw [HWR.out]
            show w2.cell? ⟨w'.heap.size, 0 + j, none⟩ = _
            rw [HF.bel.cell (p := ⟨w'.heap.size, 0 + j, none⟩) hbs]; exact HC1.out j hj
          have C12 : Calls Trym.prog 12 #[.slice (some ⟨w'.heap.size, 0, none⟩) k c1, .int .i64 i] wr fun e w3 => e = .returned (.bool (ring i)) ∧ w3 = wr :=
            (back_any w'.heap.size 0 k c1 i f wr hn hi HS2 (hcb 0)).mono fun e w3 h => ⟨Ans_eq h.1 (HF.ring i hi), h.2⟩
          have C13 : Hid (∀ q', Calls Trym.prog 13 #[.slice (some ⟨w'.heap.size, 0, none⟩) k c1, .int .i64 i] (wr.drewN q') fun e w3 => e = .returned (.bool (reach i)) ∧ w3 = wr.drewN q') := fun q' =>
            (goes_any w'.heap.size 0 k c1 i f (wr.drewN q') hn hi HS2 (hcb q')).mono fun e w3 h => ⟨Ans_eq h.1 (HF.reach i hi), h.2⟩
          have k1 : wr.cell? ⟨w1.heap.size + 1, i, none⟩ = some (.bool (ring i)) := by rw [HWR.out]; exact HF.rr.cell hi
          have k2 : wr.cell? ⟨w1.heap.size + 2, i, none⟩ = some (.bool (reach i)) := by rw [HWR.out]; exact HF.rb.cell hi
          have hri := HF.ring i hi
          by_cases ho : OnR f i
          · have hr1 : ring i = true := hri.2 ho
            rw [hr1] at C12 k1
            obtain ⟨r, hr, C14⟩ : ∃ r : Bool, (r = true ↔ Lst f i) ∧ Hid (∀ q', Calls Trym.prog 14 #[.slice (some ⟨w'.heap.size, 0, none⟩) k c1, .int .i64 i] (wr.drewN q') fun e w3 => e = .returned (.bool r) ∧ w3 = wr.drewN q') := by
              by_cases hl : Lst f i
              · exact ⟨true, ⟨fun _ => hl, fun _ => rfl⟩, fun q' => (least_any w'.heap.size 0 k c1 i f (wr.drewN q') hn hi HS2 ho (hcb q')).mono fun e w3 h => ⟨Ans_eq h.1 ⟨fun _ => hl, fun _ => rfl⟩, h.2⟩⟩
              · exact ⟨false, ⟨fun h => by simp at h, fun h => absurd h hl⟩, fun q' => (least_any w'.heap.size 0 k c1 i f (wr.drewN q') hn hi HS2 ho (hcb q')).mono fun e w3 h => ⟨Ans_eq h.1 ⟨fun h => by simp at h, fun h => absurd h hl⟩, h.2⟩⟩
            have HR : Hid (r = true ↔ Lst f i) := hr
            have HO : Hid (OnR f i) := ho
            have HC12 := hide_it C12
            clear hr ho hri hr1 hcb C12
            cases r
            · go_wp2_with (go_at_call 12; refine HC12.out.mono ?_; rintro e w3 ⟨rfl, rfl⟩)
              go_quiet ((go_at_call 13; exact Calls.quiet_of_same (C13.out _)))
              go_wp2_with (go_at_call 14; refine (C14.out _).mono ?_; rintro e w3 ⟨rfl, rfl⟩)
              go_roundw
              case rel => exact ⟨i + 1, W, q + nq, by omega, by go_num, rfl, HCN.no (fun h => by have := HR.out.2 h.2; simp at this), by rw [HWR.out, World.drewN_drewN]⟩
              case measure => simp [intOf]; omega
            · go_wp2_with (go_at_call 12; refine HC12.out.mono ?_; rintro e w3 ⟨rfl, rfl⟩)
              go_quiet ((go_at_call 13; exact Calls.quiet_of_same (C13.out _)))
              go_wp2_with (go_at_call 14; refine (C14.out _).mono ?_; rintro e w3 ⟨rfl, rfl⟩)
              go_roundw
              case rel => exact ⟨i + 1, W + 1, q + nq, by omega, by go_num, by go_num, HCN.yes ⟨HO.out, HR.out.1 (by simp)⟩, by rw [HWR.out, World.drewN_drewN]⟩
              case measure => simp [intOf]; omega
          · have hr1 : ring i = false := by
              cases h : ring i
              · rfl
              · exact absurd (hri.1 h) ho
            rw [hr1] at C12 k1
            have HO : Hid (¬ OnR f i) := ho
            have HC12 := hide_it C12
            clear ho hri hr1 hcb C12
            go_wp2_with (go_at_call 12; refine HC12.out.mono ?_; rintro e w3 ⟨rfl, rfl⟩)
            go_quiet ((go_at_call 13; exact Calls.quiet_of_same (C13.out _)))
            go_wp2
            go_roundw
            case rel => exact ⟨i + 1, W, q + nq, by omega, by go_num, rfl, HCN.no (fun h => HO.out h.1), by rw [HWR.out, World.drewN_drewN]⟩
            case measure => simp [intOf]; omega
        · obtain rfl : i = k := by omega
          obtain rfl : W = R := HCN.uniq HF.cnt
          go_wp2
          go_ret
          refine ⟨by simp, ?_⟩
          rw [HWR.out]
          exact below_drewN (HB1.trans (HF.bel.mono HB1.size)) _

theorem walk (a0 : Option Addr) (len0 cap0 : Nat) (z0 : List Int) (w : World) (w0 : IsRow .i64 w a0 len0 cap0 z0) :
    Calls Trym.prog 4 #[.slice a0 len0 cap0] w fun e w' => e = .returned (.bool true) ∧ Below w.heap.size w w' := by
  rcases w0 with ⟨rfl, rfl, rfl, rfl⟩ | ⟨x, rfl, hlc, hcm, hzl, hcell, hwf⟩
  · exact walk_each none 0 0 0 0 (fun _ => 0) w (by omega) (fun _ => ⟨rfl, rfl⟩) (fun h => by omega) (fun j hj => by omega)
  · unfold maxLen at hcm
    by_cases hn : len0 ≤ 4096
    · obtain ⟨b, off, spot⟩ := x
      refine walk_each (some ⟨b, off, spot⟩) b off len0 cap0 (fun j => z0.getD j 0) w hn (fun h => by simp at h) ?_ ?_
      · intro h
        have := hcell 0 (by omega)
        have hspot : spot = none := by simpa [Addr.add] using World.cell?_spot this
        rw [hspot]
      · intro j hj
        have h1 := hcell j (by omega)
        have hspot : spot = none := by simpa [Addr.add] using World.cell?_spot (hcell 0 (by omega))
        subst hspot
        rw [← add_plain]; exact h1
    · exact walk_great (some x) len0 cap0 w (by omega) (by omega)

/-! ### THE ROW's STEP: WRITTEN OUT: LEAVE IT -/
set_option maxRecDepth 100000 in
theorem lifted (os : Os) (started : os.Started) (H : Type) (enc : TypeId × Value → H) :
    ReturnsInHanded {} Trym.checked os 4 .any (Rows.fnFollowBestMatchesWalksSpec.pre6 enc Trym.prog Trym.f4 Rows.fnFollowBestMatchesWalksRow.domain false) (Rows.fnFollowBestMatchesWalksSpec.post enc Trym.prog Trym.f4 false true false false) := by
  refine returnsInHanded_of_change (C := Trym.checked) own started (by kernel_rfl) Trym.func4
    (ChangeSpec.witness6 (enc := enc) (C := Trym.checked) false ⟨#[], #[.slice none 0 0], []⟩ 8 (by kernel_rfl) (by kernel_rfl) (by kernel_rfl) (by kernel_rfl)) ?_
  intro W base args ds gs before hval0 hW hcnd _
  have hval : ∀ (j : Nat) t v, Trym.f4.params[j]? = some t → args[j]? = some v → Value.okWide Trym.prog W .any base t v := hval0
  have hW' := hW
  obtain ⟨p, q, hA0, hV, rfl, hfz, hnd⟩ := hW
  have hA : DataW.TrodAll enc Trym.prog W 0 (fun _ => true) true Trym.f4.params.toList args.toList ds p := hA0
  rw [Trym.params4] at hA hval
  obtain ⟨v0, vs0, d0, ds0, p0, q0, hargs, rfl, rfl, h0, r0⟩ := trodAll_cons hA
  obtain ⟨rfl, rfl, rfl⟩ := trodAll_nil r0
  obtain rfl : args = #[v0] := by cases args; simp_all
  obtain ⟨rfl, rfl⟩ := trodVars_none hV
  obtain ⟨a0, len0, cap0, rfl⟩ := okWide_slice Trym.underlying22 (hval 0 22 v0 rfl rfl)
  have k0 := h0
  have lt0 : ∀ x ∈ p0, x.block < W.heap.size := by obtain ⟨m, hm⟩ := k0; exact DataW.trod_lt m _ _ _ hm
  obtain ⟨z0, w0⟩ : ∃ zs, IsRow .i64 W a0 len0 cap0 zs := by
    obtain ⟨fuel, hf⟩ := h0
    rcases open_ints Trym.underlying22 Trym.underlying3 (by kernel_rfl) hf with ⟨hcs, _⟩ | ⟨x, l, c, zs, hcs, _, hl, hm, hz, _, hcell, hwz⟩
    · simp [Value.cells] at hcs
      obtain ⟨rfl, rfl, rfl⟩ := hcs
      exact ⟨[], .inl ⟨rfl, rfl, rfl, rfl⟩⟩
    · simp [Value.cells] at hcs
      obtain ⟨rfl, rfl, rfl⟩ := hcs
      exact ⟨zs, .inr ⟨_, rfl, hl, hm, by simpa using hz, hcell, hwz⟩⟩
  clear hA0 hval0
  refine (walk a0 len0 cap0 z0 W w0).mono fun e W' ⟨he, bel⟩ => ?_
  subst he
  exact ⟨_, rfl, _, _, _, [], _, [], hW', trodAll_mk1 (shut_bool Trym.underlying4 _), (trodAll_cons_mk (Below.trod laidOut (by kernel_rfl) (of_decide_eq_true (by kernel_rfl)) k0 bel lt0) trodAll_mk0), rfl, bel.frame _, fun h => by cases h⟩

theorem over : Rows.fnFollowBestMatchesWalksRow.holds Trym.pinned (OpenSpec.ofChange Rows.fnFollowBestMatchesWalksSpec) :=
  OpenClaim.holds_of_wide 4 Trym.f4 rfl rfl rfl rfl rfl rfl rfl ⟨rfl, rfl, rfl, rfl, rfl⟩ rfl rfl rfl rfl rfl (by kernel_rfl) Trym.func4 (by kernel_rfl)
    (of_decide_eq_true (by kernel_rfl)) (by unfold Func.isWrapper; first | (rw [if_pos (by decide +kernel)]; kernel_rfl) | (rw [if_neg (by decide +kernel)]; exact ⟨rfl, rfl⟩))
    (fun os started H enc _ => lifted os started H enc)

/-- ████ THE STATEMENT ████ -/
theorem proved : Rows.FnFollowBestMatchesWalksSaid := over
end Go.Proofs.Qxb6605466aMods.fnFollowBestMatchesWalks
namespace Go.Proofs.Qxb6605466aMods
theorem fnFollowBestMatchesWalks_holds : Rows.FnFollowBestMatchesWalksSaid := fnFollowBestMatchesWalks.proved
end Go.Proofs.Qxb6605466aMods
