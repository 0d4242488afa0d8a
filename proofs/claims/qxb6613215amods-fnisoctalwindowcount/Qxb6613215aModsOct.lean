/-
  isOctal, ZZisOctal; and the plain laws, each over the 256 bytes.
-/
import Derived.Test.Qxb6613215aModsRows
import Derived.WalkKit
import Derived.ProofKit
import Derived.WalkSpells
import Derived.WalkLawsBesides
namespace Go.Proofs.Qxb6613215aMods
open Go.ChangeShapes Go.WideShapes Go.ChangeAt Go.RowKit

/-- An octal digit. -/
def oct (x : Nat) : Bool := decide (48 ≤ x) && decide (x ≤ 55)

theorem isOctal_any (x : Nat) (w : World) : Calls Trym.prog 6 #[.int .u8 x] w fun e w' => e = .returned (.bool (oct x)) ∧ w' = w := by
  by_cases h1 : 48 ≤ x
  · by_cases h2 : x ≤ 55
    · have e : oct x = true := by simp [oct, h1, h2]
      rw [e]
      have hd2 : decide ((x : Int) ≤ 55) = true := decide_eq_true (by omega)
      go_enter Trym.func6, Trym.ntmps6
      go_wp2
      go_ret
      exact ⟨rfl, rfl⟩
    · have e : oct x = false := by simp [oct, h2]
      rw [e]
      have hd2 : decide ((x : Int) ≤ 55) = false := decide_eq_false (by omega)
      go_enter Trym.func6, Trym.ntmps6
      go_wp2
      go_ret
      exact ⟨rfl, rfl⟩
  · have e : oct x = false := by simp [oct, h1]
    rw [e]
    have hd : decide ((48 : Int) ≤ (x : Int)) = false := decide_eq_false (by omega)
    go_enter Trym.func6, Trym.ntmps6
    go_wp2
    go_ret
    exact ⟨rfl, rfl⟩

theorem zz_any (x : Nat) (w : World) : Calls Trym.prog 5 #[.int .u8 x] w fun e w' => e = .returned (.bool (oct x)) ∧ w' = w := by
  go_enter Trym.func5, Trym.ntmps5
  go_wp2_with (go_at_call 6; refine (isOctal_any x _).mono ?_; rintro e w' ⟨rfl, rfl⟩)
  go_ret
  exact ⟨rfl, rfl⟩

/-- How many octal digits stand among c, .., c + k - 1 (wrapping). -/
def cnt (c : Nat) : Nat → Nat
  | 0 => 0
  | k + 1 => cnt c k + if oct ((c + k) % 256) then 1 else 0

theorem cnt_le (c k : Nat) : cnt c k ≤ k := by
  induction k with
  | zero => exact Nat.le_refl _
  | succ k ih => show cnt c k + (if _ then 1 else 0) ≤ k + 1; split <;> omega

/-- What FnIsOctalWindowCount wants. -/
def want (c : Nat) : Nat := if 40 < c ∧ c < 56 then (if c < 48 then c - 40 else 56 - c) else 0

theorem window : ∀ c, c < 256 → cnt c 8 = want c := by decide +kernel

/-- How many octal digits stand among c, c + 8, .. (wrapping), and the last of them. -/
def cnt8 (c : Nat) : Nat → Nat
  | 0 => 0
  | k + 1 => cnt8 c k + if oct ((c + 8 * k) % 256) then 1 else 0
def fnd8 (c : Nat) : Nat → Nat
  | 0 => 0
  | k + 1 => if oct ((c + 8 * k) % 256) then (c + 8 * k) % 256 else fnd8 c k

theorem cnt8_le (c k : Nat) : cnt8 c k ≤ k := by
  induction k with
  | zero => exact Nat.le_refl _
  | succ k ih => show cnt8 c k + (if _ then 1 else 0) ≤ k + 1; split <;> omega

theorem residue : ∀ c, c < 256 → cnt8 c 32 = 1 ∧ fnd8 c 32 = 48 + c % 8 := by decide +kernel

theorem zz_of (x : Int) (n : Nat) (hx : x = n) (r : Bool) (hr : oct n = r) (w : World) : Calls Trym.prog 5 #[.int .u8 x] w fun e w' => e = .returned (.bool r) ∧ w' = w := by
  subst hx; subst hr
  exact zz_any n w

theorem cnt_no {c k : Nat} (h : oct ((c + k) % 256) = false) : cnt c (k + 1) = cnt c k := by show cnt c k + _ = _; rw [h]; rfl
theorem cnt_yes {c k : Nat} (h : oct ((c + k) % 256) = true) : cnt c (k + 1) = cnt c k + 1 := by show cnt c k + _ = _; rw [h]; rfl
theorem cnt8_no {c k : Nat} (h : oct ((c + 8 * k) % 256) = false) : cnt8 c (k + 1) = cnt8 c k ∧ fnd8 c (k + 1) = fnd8 c k := by
  constructor
  · show cnt8 c k + _ = _; rw [h]; rfl
  · show (if _ then _ else _) = _; rw [h]; rfl
theorem cnt8_yes {c k : Nat} (h : oct ((c + 8 * k) % 256) = true) : cnt8 c (k + 1) = cnt8 c k + 1 ∧ fnd8 c (k + 1) = (c + 8 * k) % 256 := by
  constructor
  · show cnt8 c k + _ = _; rw [h]; rfl
  · show (if _ then _ else _) = _; rw [h]; rfl
end Go.Proofs.Qxb6613215aMods
