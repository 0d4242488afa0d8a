/-
  THE WALKS OF comesBackB1, neverEndsB1, leastOnRingB1.
-/
import Derived.Test.Qxb6605466aModsRows
import Derived.Test.Qxb6605466aModsRing
import Derived.WalkKit
import Derived.ProofKit
import Derived.WalkSpells
import Derived.WalkLawsBesides
import Derived.Below
namespace Go.Proofs.Qxb6605466aMods
open Go.ChangeShapes Go.WideShapes Go.ChangeAt Go.RowKit
open Ring (it it_step it_nonneg it_lt it_add it_stays OnR Goes Lst)

/-- The call answers a bool: whether p holds. -/
def Ans (e : Ending) (p : Prop) : Prop := ∃ r : Bool, e = .returned (.bool r) ∧ (r = true ↔ p)
theorem Ans.yes {p : Prop} (h : p) : Ans (.returned (.bool true)) p := ⟨true, rfl, ⟨fun _ => h, fun _ => rfl⟩⟩
theorem Ans.no {p : Prop} (h : ¬ p) : Ans (.returned (.bool false)) p := ⟨false, rfl, ⟨fun h => by simp at h, fun h' => absurd h' h⟩⟩
theorem Ans.of {p : Prop} {r : Bool} (h : r = true ↔ p) : Ans (.returned (.bool r)) p := ⟨r, rfl, h⟩

/-- What comesBackB1 knows after s steps. -/
structure CbAt (f : Nat → Int) (i s J : Nat) : Prop where
  place : it f i s = J
  none : ∀ t, 1 ≤ t → t ≤ s → it f i t ≠ i

theorem CbAt.out {f : Nat → Int} {i s J : Nat} (h : CbAt f i s J) (hn : f J < 0) : ¬ OnR f i := by
  rintro ⟨t, h1, h2⟩
  by_cases ht : t ≤ s
  · exact h.none t h1 ht h2
  · have e : it f i (s + 1) = f J := by rw [it_step (by rw [h.place]; omega), h.place]; rfl
    have := it_stays (f := f) hn (t - (s + 1))
    rw [← e, ← it_add, show s + 1 + (t - (s + 1)) = t by omega] at this
    omega

theorem CbAt.hit {f : Nat → Int} {i s J : Nat} (h : CbAt f i s J) (hn : f J = i) : OnR f i :=
  ⟨s + 1, by omega, by rw [it_step (by rw [h.place]; omega), h.place]; exact hn⟩

theorem CbAt.step {f : Nat → Int} {i s J : Nat} (h : CbAt f i s J) (h0 : 0 ≤ f J) (hn : f J ≠ i) : CbAt f i (s + 1) (f J).toNat := by
  have e : it f i (s + 1) = f J := by rw [it_step (by rw [h.place]; omega), h.place]; rfl
  refine ⟨by omega, fun t h1 h2 => ?_⟩
  by_cases ht : t ≤ s
  · exact h.none t h1 ht
  · obtain rfl : t = s + 1 := by omega
    rw [e]; exact hn

set_option maxHeartbeats 400000 in
theorem back_any (b off n c i : Nat) (f : Nat → Int) (w : World) (hn : n ≤ 4096) (hi : i < n) (hf : Hid (∀ j, j < n → f j < n)) (hc : ∀ j, j < n → w.cell? ⟨b, off + j, none⟩ = some (.int .i64 (f j))) :
    Calls Trym.prog 12 #[.slice (some ⟨b, off, none⟩) n c, .int .i64 i] w fun e w' => Ans e (OnR f i) ∧ w' = w := by
  go_enter Trym.func12, Trym.ntmps12
  go_wp2
  go_loop [6, 7] (fun j s => ∃ S J : Nat, S ≤ n ∧ J < n ∧ j = .int .i64 J ∧ s = .int .i64 S ∧ CbAt f i S J) (fun _ s => n - (intOf s).toNat)
  case atStart => exact ⟨0, i, by omega, hi, rfl, rfl, rfl, fun t h1 h2 => by omega⟩
  case round =>
    obtain ⟨S, J, hS, hJ, rfl, rfl, HA⟩ := hrel
    by_cases hlt : S < n
    · have h1 := hc J hJ
      go_wp2
      · have h2 : f J < 0 := by assumption
        go_ret
        exact ⟨.no (HA.out h2), rfl⟩
      · have h2 : (f J == (i : Int)) = true := by assumption
        go_ret
        exact ⟨.yes (HA.hit (by simpa using h2)), rfl⟩
      · have h2 : (f J == (i : Int)) = false := by assumption
        have h3 : 0 ≤ f J := by assumption
        have h4 := hf.out J hJ
        go_round
        case rel => exact ⟨S + 1, (f J).toNat, by omega, by omega, by go_num, by go_num, HA.step h3 (by simpa using h2)⟩
        case measure => simp [intOf]; omega
    · go_wp2
      go_ret
      refine ⟨.no fun h => ?_, rfl⟩
      obtain ⟨t, h1, h2, h3⟩ := h.small hf.out (by omega) (by omega)
      exact absurd h3 (HA.none t h1 (by omega))

set_option maxHeartbeats 400000 in
theorem goes_any (b off n c i : Nat) (f : Nat → Int) (w : World) (hn : n ≤ 4096) (hi : i < n) (hf : Hid (∀ j, j < n → f j < n)) (hc : ∀ j, j < n → w.cell? ⟨b, off + j, none⟩ = some (.int .i64 (f j))) :
    Calls Trym.prog 13 #[.slice (some ⟨b, off, none⟩) n c, .int .i64 i] w fun e w' => Ans e (Goes f i) ∧ w' = w := by
  go_enter Trym.func13, Trym.ntmps13
  go_wp2
  go_loop [6, 7] (fun j s => ∃ (S : Nat) (J : Int), S ≤ n ∧ J < n ∧ j = .int .i64 J ∧ s = .int .i64 S ∧ Hid (it f i S = J)) (fun _ s => n - (intOf s).toNat)
  case atStart => exact ⟨0, i, by omega, by omega, rfl, rfl, rfl⟩
  case round =>
    obtain ⟨S, J, hS, hJ, rfl, rfl, HA⟩ := hrel
    by_cases hlt : S < n
    · by_cases h0 : 0 ≤ J
      · obtain ⟨K, rfl⟩ := Int.eq_ofNat_of_zero_le h0
        have h1 := hc K (by omega)
        have h2 := hf.out K (by omega)
        go_wp2
        go_round
        case rel => exact ⟨S + 1, f K, by omega, h2, rfl, by go_num, by show it f i (S + 1) = f K; rw [it_step (by rw [HA.out]; omega), HA.out]; rfl⟩
        case measure => simp [intOf]; omega
      · have hd : decide (0 ≤ J) = false := decide_eq_false h0
        go_wp2
        go_ret
        refine ⟨.no fun h => ?_, rfl⟩
        have := h S
        rw [HA.out] at this
        omega
    · obtain rfl : S = n := by omega
      have hd : decide ((S : Int) < (S : Int)) = false := decide_eq_false (by omega)
      go_wp2
      go_ret
      refine ⟨.of ⟨fun h => ?_, fun h => ?_⟩, rfl⟩
      · exact Ring.goes_of hf.out (by omega) (by rw [HA.out]; simpa using h)
      · have := h S
        rw [HA.out] at this
        simpa using this

/-- What leastOnRingB1 knows: it stands at the s-th place. -/
structure LoAt (f : Nat → Int) (i s J : Nat) : Prop where
  place : it f i (s + 1) = J
  none : ∀ t, 1 ≤ t → t ≤ s → it f i t ≠ i
  least : ∀ t, t ≤ s → i ≤ it f i t

theorem LoAt.hit {f : Nat → Int} {i s J : Nat} (h : LoAt f i s J) (hj : J = i) : Lst f i := by
  intro t
  obtain ⟨u, hu, e⟩ := OnR.back (f := f) (i := i) (p := s + 1) (by omega) (by rw [h.place, hj]) t
  rw [e]
  exact h.least u (by omega)

theorem LoAt.low {f : Nat → Int} {i s J : Nat} (h : LoAt f i s J) (hj : J < i) : ¬ Lst f i := by
  intro hl
  have := hl (s + 1)
  rw [h.place] at this
  omega

theorem LoAt.step {f : Nat → Int} {i s J : Nat} (h : LoAt f i s J) (ho : OnR f i) (hj : ¬ J = i) (hl : ¬ J < i) : LoAt f i (s + 1) (f J).toNat := by
  have h0 := ho.goes (by omega) (s + 2)
  have e : it f i (s + 2) = f J := by rw [it_step (by rw [h.place]; omega), h.place]; rfl
  refine ⟨by rw [e] at h0 ⊢; omega, fun t h1 h2 => ?_, fun t ht => ?_⟩
  · by_cases ht : t ≤ s
    · exact h.none t h1 ht
    · obtain rfl : t = s + 1 := by omega
      rw [h.place]; omega
  · by_cases h2 : t ≤ s
    · exact h.least t h2
    · obtain rfl : t = s + 1 := by omega
      rw [h.place]; omega

set_option maxHeartbeats 400000 in
theorem least_any (b off n c i : Nat) (f : Nat → Int) (w : World) (hn : n ≤ 4096) (hi : i < n) (hf : Hid (∀ j, j < n → f j < n)) (ho : Hid (OnR f i)) (hc : ∀ j, j < n → w.cell? ⟨b, off + j, none⟩ = some (.int .i64 (f j))) :
    Calls Trym.prog 14 #[.slice (some ⟨b, off, none⟩) n c, .int .i64 i] w fun e w' => Ans e (Lst f i) ∧ w' = w := by
  have hg := ho.out.goes (show (0 : Int) ≤ i by omega)
  have hpl : ∀ s, it f i s < n := it_lt hf.out (show (i : Int) < n by omega)
  have e1 : it f i 1 = f i := by rw [it_step (by show (0 : Int) ≤ i; omega)]; rfl
  have h00 : 0 ≤ f i := by have := hg 1; omega
  have h01 := hf.out i hi
  have hci := hc i hi
  have HG : Hid (∀ s, 0 ≤ it f i s) := hg
  have HP : Hid (∀ s, it f i s < n) := hpl
  have HE : Hid (it f i 1 = f i) := e1
  obtain ⟨J0, hJ0⟩ := Int.eq_ofNat_of_zero_le h00
  rw [hJ0] at h01
  have HJ0 : Hid (f i = J0) := hJ0
  clear hg hpl e1 hJ0 h00
  go_enter Trym.func14, Trym.ntmps14
  go_wp2
  go_loop [6, 7] (fun j s => ∃ S J : Nat, S ≤ n ∧ J < n ∧ j = .int .i64 J ∧ s = .int .i64 S ∧ LoAt f i S J) (fun _ s => n - (intOf s).toNat)
  case atStart =>
    refine ⟨0, J0, by omega, by omega, by rw [HJ0.out], rfl, by rw [HE.out, HJ0.out], fun t h1 h2 => by omega, fun t ht => ?_⟩
    obtain rfl : t = 0 := by omega
    exact Int.le_refl _
  case round =>
    obtain ⟨S, J, hS, hJ, rfl, rfl, HA⟩ := hrel
    by_cases hlt : S < n
    · have h1 := hc J hJ
      by_cases hji : J = i
      · have hb : ((J : Int) != (i : Int)) = false := by simp; omega
        go_wp2
        go_ret
        exact ⟨.yes (HA.hit hji), rfl⟩
      · have hb : ((J : Int) != (i : Int)) = true := by simp; omega
        by_cases hl : J < i
        · go_wp2
          go_ret
          exact ⟨.no (HA.low hl), rfl⟩
        · have HB := HA.step ho.out hji hl
          have h3 := HG.out (S + 2)
          have h4 := HP.out (S + 2)
          rw [HB.place] at h3 h4
          have h5 : f J = ((f J).toNat : Int) := by
            have := HG.out (S + 2)
            rw [it_step (by rw [HA.place]; omega), HA.place, Int.toNat_natCast] at this
            omega
          generalize (f J).toNat = J2 at *
          have H5 : Hid (f J = J2) := h5
          clear h5
          go_wp2
          go_round
          case rel => exact ⟨S + 1, J2, by omega, by omega, by rw [H5.out], by go_num, HB⟩
          case measure => simp [intOf]; omega
    · exfalso
      obtain ⟨t, h1, h2, h3⟩ := ho.out.small hf.out (by omega) (by omega)
      exact absurd h3 (HA.none t h1 (by omega))
end Go.Proofs.Qxb6605466aMods
