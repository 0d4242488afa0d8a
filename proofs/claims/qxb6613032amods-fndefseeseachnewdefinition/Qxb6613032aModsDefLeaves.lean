/-
  THE LEAVES UNDER FnDefSeesEachNewDefinition.
-/
import Derived.Test.Qxb6613032aModsRows
import Derived.WalkKit
import Derived.ProofKit
import Derived.Below
import Derived.WalkSpells
import Derived.WalkLawsBesides
import Derived.LaidEqlPtr
namespace Go.Proofs.Qxb6613032aMods.Def
open Go.ChangeShapes Go.WideShapes Go.ChangeAt Go.RowKit

theorem prefix_three (m : Nat) (w : World) (h : w.cell? ⟨m, 0, none⟩ = some (.bool true)) :
    Calls Trym.prog 17 #[.pointer (some ⟨m, 0, none⟩)] w fun e w' => e = .returned (.string ⟨#[35, 47, 99, 111, 109, 112, 111, 110, 101, 110, 116, 115, 47, 115, 99, 104, 101, 109, 97, 115, 47]⟩) ∧ w' = w := by
  go_enter Trym.func17, Trym.ntmps17
  go_wp2
  go_ret
  exact ⟨rfl, rfl⟩

theorem prefix_two (m : Nat) (w : World) (h : w.cell? ⟨m, 0, none⟩ = some (.bool false)) :
    Calls Trym.prog 17 #[.pointer (some ⟨m, 0, none⟩)] w fun e w' => e = .returned (.string ⟨#[35, 47, 100, 101, 102, 105, 110, 105, 116, 105, 111, 110, 115, 47]⟩) ∧ w' = w := by
  go_enter Trym.func17, Trym.ntmps17
  go_wp2
  go_ret
  exact ⟨rfl, rfl⟩

theorem take_prefix (p s : ByteArray) : (p ++ s).extract 0 p.size = p := by
  apply ByteArray.ext
  rw [ByteArray.data_extract, ByteArray.data_append]
  have : p.size = p.data.size := rfl
  rw [this]
  simp

theorem drop_prefix (p s : ByteArray) : (p ++ s).extract p.size (p ++ s).size = s := by
  apply ByteArray.ext
  rw [ByteArray.data_extract, ByteArray.data_append, ByteArray.size_append, Array.extract_append]
  have h1 : p.size = p.data.size := rfl
  have h2 : s.size = s.data.size := rfl
  rw [h1, h2, Array.extract_eq_empty_of_le (by omega), Nat.sub_self, Nat.add_sub_cancel_left]
  simp

theorem has_any (p s : ByteArray) (w : World) (_h : (p ++ s).size ≤ 9223372036854775807) :
    Calls Trym.prog 22 #[.string (p ++ s), .string p] w fun e w' => e = .returned (.bool true) ∧ w' = w := by
  have hz : (p ++ s).size = p.size + s.size := by simp
  have ht := take_prefix p s
  go_enter Trym.func22, Trym.ntmps22
  go_wp2
  go_ret
  exact ⟨rfl, rfl⟩

theorem lite_any (p s : ByteArray) (w : World) (h : (p ++ s).size ≤ 9223372036854775807) :
    Calls Trym.prog 21 #[.string (p ++ s), .string p] w fun e w' => e = .returned (.string s) ∧ w' = w := by
  have hz : (p ++ s).size = p.size + s.size := by simp
  have ht := drop_prefix p s
  rw [hz] at ht
  go_enter Trym.func21, Trym.ntmps21
  go_wp2_with (go_at_call 22; refine (has_any p s _ h).mono ?_; rintro e w' ⟨rfl, rfl⟩)
  go_ret
  exact ⟨rfl, rfl⟩

theorem trim_any (p s : ByteArray) (w : World) (h : (p ++ s).size ≤ 9223372036854775807) :
    Calls Trym.prog 20 #[.string (p ++ s), .string p] w fun e w' => e = .returned (.string s) ∧ w' = w := by
  go_enter Trym.func20, Trym.ntmps20
  go_wp2_with (go_at_call 21; refine (lite_any p s _ h).mono ?_; rintro e w' ⟨rfl, rfl⟩)
  go_ret
  exact ⟨rfl, rfl⟩

/-- A schema's block, its Ref and Description given. -/
def schemaOf (ref desc : ByteArray) : Obj :=
  .cells #[.string ref, .slice none 0 0, .string desc, .string ⟨#[]⟩, .string ⟨#[]⟩, .pointer none, .map none, .pointer none, .slice none 0 0] 32

theorem schema_any (ref desc : ByteArray) (w : World) :
    Calls Trym.prog 12 #[.string ref, .string desc] w fun e w' => e = .returned (.pointer (some ⟨w.heap.size, 0, none⟩)) ∧ w' = w.alloc (schemaOf ref desc) := by
  go_enter Trym.func12, Trym.ntmps12
  go_wp2
  go_ret
  exact ⟨rfl, rfl⟩

theorem models_any (v3 : Bool) (w : World) :
    Calls Trym.prog 10 #[.bool v3] w fun e w' => e = .returned (.pointer (some ⟨w.heap.size + 1, 0, none⟩)) ∧ w' = (w.alloc (.map #[] 0)).alloc (.cells #[.bool v3, .map (some w.heap.size)] 46) := by
  have hmm := @run_makeMap Trym.prog
  go_enter Trym.func10, Trym.ntmps10
  go_wp2
  go_ret
  exact ⟨rfl, rfl⟩
end Go.Proofs.Qxb6613032aMods.Def
