import Derived.Test.Qxb6605466aModsRows
import Derived.Test.Qxb6605466aModsNeck
import Derived.WalkKit
import Derived.ProofKit
import Derived.WalkSpells
import Derived.WalkLawsBesides
import Derived.Below
namespace Go.Proofs.Qxb6605466aMods
open Go.ChangeShapes Go.WideShapes Go.ChangeAt Go.RowKit

set_option maxHeartbeats 400000 in
theorem neck_any (b off n c : Nat) (a : Nat → Int) (w : World) (hn : n ≤ 4096) (hn1 : 1 ≤ n) (hc : ∀ j, j < n → w.cell? ⟨b, off + j, none⟩ = some (.int .i64 (a j))) :
    Calls Trym.prog 9 #[.slice (some ⟨b, off, none⟩) n c] w fun e w' => (∃ r : Bool, e = .returned (.bool r) ∧ (r = true ↔ Neck.Least a n)) ∧ ∃ q, w' = w.drewN q := by
  go_enter Trym.func9, Trym.ntmps9
  go_wp2
  go_loopw [4, 5] (fun p i wr => ∃ P m q : Nat, m ≤ n ∧ p = .int .i64 P ∧ i = .int .i64 m ∧ Neck.Inv a P m ∧ wr = w.drewN q) (fun _ i _ => n - (intOf i).toNat)
  case atStart => exact ⟨1, 1, 0, hn1, rfl, rfl, Neck.Inv.start a, rfl⟩
  case round =>
    obtain ⟨P, m, q, hm, rfl, rfl, HI, rfl⟩ := hrel
    have hp1 := HI.pos
    have hp2 := HI.le
    by_cases hlt : m < n
    · have h1 := hc m hlt
      have h2 := hc (m - P) (by omega)
      go_wp2
      go_region
      go_wp2
      · go_ret
        have hlt2 : a m < a (m - P) := by assumption
        exact ⟨⟨false, rfl, ⟨fun h => by simp at h, fun h => absurd h (HI.falls hlt hlt2)⟩⟩, _, rfl⟩
      · have hle : a (m - P) ≤ a m := by assumption
        go_region
        go_wp2
        · have hup : a (m - P) < a m := by assumption
          go_roundw
          case rel => exact ⟨m + 1, m + 1, _, by omega, by go_num, by go_num, HI.up hup, rfl⟩
          case measure => simp [intOf]; omega
        · have hsm : a m ≤ a (m - P) := by assumption
          go_roundw
          case rel => exact ⟨P, m + 1, _, by omega, rfl, by go_num, HI.same (by omega), rfl⟩
          case measure => simp [intOf]; omega
    · have hmn : m = n := by omega
      subst hmn
      have HE := HI.ends
      have hz : ((m : Int) % (P : Int) == 0) = decide (m % P = 0) := by
        rw [Bool.eq_iff_iff]; simp; omega
      go_wp2
      go_ret
      exact ⟨⟨_, rfl, by rw [HE]; simp⟩, _, rfl⟩

theorem neck_nil (ao : Option Addr) (c : Nat) (w : World) :
    Calls Trym.prog 9 #[.slice ao 0 c] w fun e w' => e = .returned (.bool true) ∧ w' = w := by
  go_enter Trym.func9, Trym.ntmps9
  go_wp2
  go_loop [4, 5] (fun p i => p = .int .i64 1 ∧ i = .int .i64 1) (fun _ i => 0)
  case atStart => exact ⟨rfl, rfl⟩
  case round =>
    obtain ⟨rfl, rfl⟩ := hrel
    go_wp2
    go_ret
    exact ⟨rfl, rfl⟩

set_option maxHeartbeats 400000 in
theorem turn_any (b off n c : Nat) (a : Nat → Int) (w : World) (hn : n ≤ 4096) (hn1 : 1 ≤ n) (hc : ∀ j, j < n → w.cell? ⟨b, off + j, none⟩ = some (.int .i64 (a j)))
    (hb : ∀ j, j < n → a j ≤ 4611686018427387903 ∧ -4611686018427387903 ≤ a j) :
    Calls Trym.prog 15 #[.slice (some ⟨b, off, none⟩) n c] w fun e w' => (∃ r : Bool, e = .returned (.bool r) ∧ (r = true ↔ Neck.Least a n)) ∧ ∃ q, w' = w.drewN q := by
  go_enter Trym.func15, Trym.ntmps15
  go_wp2
  go_loopw [4] (fun k wr => ∃ K q : Nat, 1 ≤ K ∧ K ≤ n ∧ k = .int .i64 K ∧ Neck.Upto a n K ∧ wr = w.drewN q) (fun k _ => n - (intOf k).toNat)
  case atStart => exact ⟨1, 0, by omega, hn1, rfl, Neck.Upto.start a n, rfl⟩
  case round =>
    obtain ⟨K, q, hK1, hK, rfl, HU, rfl⟩ := hrel
    by_cases hlt : K < n
    · go_wp2
      go_loopw [15] (fun i wr => ∃ I q : Nat, I ≤ n ∧ i = .int .i64 I ∧ (∀ s, s < I → a ((K + s) % n) = a s) ∧ wr = w.drewN q) (fun i _ => n - (intOf i).toNat)
      case atStart => exact ⟨0, _, by omega, rfl, fun s hs => absurd hs (by omega), rfl⟩
      case round =>
        obtain ⟨I, q, hI, rfl, HS, rfl⟩ := hrel
        have HS2 : Hid (∀ s, s < I → a ((K + s) % n) = a s) := HS
        clear HS
        by_cases hli : I < n
        · have hmod : (K + I) % n < n := Nat.mod_lt _ (by omega)
          have hi0 : (0 : Int) ≤ ((K : Int) + (I : Int)) % (n : Int) := by exact_mod_cast Nat.zero_le ((K + I) % n)
          have hi1 : ((K : Int) + (I : Int)) % (n : Int) < (n : Int) := by exact_mod_cast hmod
          have h1 := hc I hli
          have h2 := hc ((K + I) % n) hmod
          have b1 := hb I hli
          have b2 := hb ((K + I) % n) hmod
          go_wp2
          go_region
          go_wp2
          · have hd : a ((K + I) % n) - a I < 0 := by assumption
            go_ret
            exact ⟨⟨false, rfl, ⟨fun h => by simp at h, fun h => absurd h (Neck.Upto.less hK1 hlt hli HS2 (by omega))⟩⟩, _, rfl⟩
          · have hd : 0 ≤ a ((K + I) % n) - a I := by assumption
            have hne : (a ((K + I) % n) - a I != 0) = true := by assumption
            have hne' : a ((K + I) % n) - a I ≠ 0 := by simpa using hne
            go_roundw
            case rel => exact ⟨K + 1, _, by omega, by omega, by go_num, HU.more HS2 (by omega), rfl⟩
            case measure => simp [intOf]; omega
          · have hne : (a ((K + I) % n) - a I != 0) = false := by assumption
            have hne' : a ((K + I) % n) - a I = 0 := by simpa using hne
            go_roundw
            case rel =>
              refine ⟨I + 1, _, by omega, by go_num, fun s hs => ?_, rfl⟩
              by_cases h : s < I
              · exact HS2 s h
              · have : s = I := by omega
                subst this; omega
            case measure => simp [intOf]; omega
        · have hIn : I = n := by omega
          go_wp2
          go_roundw
          case rel => exact ⟨K + 1, _, by omega, by omega, by go_num, HU.same (fun s hs => HS2 s (by omega)), rfl⟩
          case measure => simp [intOf]; omega
    · go_wp2
      go_ret
      exact ⟨⟨true, rfl, ⟨fun _ => HU.ends (by omega), fun _ => rfl⟩⟩, _, rfl⟩

theorem turn_nil (ao : Option Addr) (c : Nat) (w : World) :
    Calls Trym.prog 15 #[.slice ao 0 c] w fun e w' => e = .returned (.bool true) ∧ w' = w := by
  go_enter Trym.func15, Trym.ntmps15
  go_wp2
  go_loop [4] (fun i => i = .int .i64 1) (fun i => 0)
  case atStart => rfl
  case round =>
    subst hrel
    go_wp2
    go_ret
    exact ⟨rfl, rfl⟩
end Go.Proofs.Qxb6605466aMods
