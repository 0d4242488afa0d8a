/-
  THE MAP OF SCHEMAS: ZZsetDef, def, ZZdef.
-/
import Derived.Test.Qxb6613032aModsDefLeaves
import Derived.Maps.Own
import Derived.Maps.OwnOps
import Derived.Maps.OwnSet
import Derived.Maps.Views
import Derived.Deep.QuietTactic
import Derived.BigQuiet
namespace Go.Proofs.Qxb6613032aMods.Def
open Go.ChangeShapes Go.WideShapes Go.ChangeAt Go.RowKit Go.Maps Go.WideMaps Go.WideElems

/-- How an element of the map reads: the block that the pointer leads to; nil. -/
def ptrElem (v : Value) : Option (DataW Unit × List MemPlace) :=
  match v with
  | .pointer (some a) => if a.off = 0 ∧ a.spot = none then some (.lit (.int .i64 a.block), []) else none
  | .pointer none => some (.nil, [])
  | _ => none

theorem ptrElem_mk (b : Nat) : ptrElem (.pointer (some ⟨b, 0, none⟩)) = some (.lit (.int .i64 b), []) := by simp [ptrElem]
theorem ptrElem_nil : ptrElem (.pointer none) = some (.nil, []) := rfl
theorem ptrElem_inv {v : Value} {b : Nat} {ps : List MemPlace} (h : ptrElem v = some (.lit (.int .i64 (b : Int)), ps)) : v = .pointer (some ⟨b, 0, none⟩) := by
  unfold ptrElem at h
  split at h
  · rename_i a
    split at h
    · rename_i ha
      obtain ⟨x, y, z⟩ := a
      simp at h ha
      obtain ⟨rfl, rfl⟩ := ha
      have : x = b := by omega
      rw [this]
    · simp at h
  · simp at h
  · simp at h

theorem law : Keyed Trym.prog 9 := string_keyed Trym.underlying9
theorem zero25 (w : World) : (zeroValue 25).run Trym.prog w = .ok (.pointer none) w := by kernel_rfl

/-- The datum of a key. -/
abbrev keyLit (s : ByteArray) : Lit := .string s.data.toList
theorem key_is (s : ByteArray) (h : s.size ≤ maxLen) : keyOf Trym.prog 9 (.string s) = some (keyLit s) := keyOf_string_mk Trym.underlying9 h

set_option maxHeartbeats 400000 in
theorem set_any (m B n : Nat) (D : DataW Unit) (name : ByteArray) (s : Nat) (w : World) (h1 : w.cell? ⟨m, 1, none⟩ = some (.map (some B))) (hown : w.ownsMap Trym.prog 9 ptrElem B n D) (hn : n < maxLen) (hs : name.size ≤ maxLen) :
    Calls Trym.prog 14 #[.pointer (some ⟨m, 0, none⟩), .string name, .pointer (some ⟨s, 0, none⟩)] w fun e w' => e = .returned (.tuple #[]) ∧ w'.ownsMap Trym.prog 9 ptrElem B (n + 1) (D.put (keyLit name) (.lit (.int .i64 s))) ∧ w.grownBy w' (some B) := by
  go_enter Trym.func14, Trym.ntmps14
  go_wp2_with (at_mapUpdate; refine wpList_mapUpdate_own _ rfl _ _ _ 29 rfl 9 25 law Trym.underlying29 ptrElem B n D rfl hown hn _ _ (keyLit name) rfl rfl (key_is name hs) _ [] (ptrElem_mk s) ?_; intro w1 hown1 hgrow1)
  go_end0
  exact ⟨rfl, hown1, hgrow1⟩

set_option maxHeartbeats 400000 in
theorem def_any (m B n r p : Nat) (D : DataW Unit) (pre name : ByteArray) (w : World) (h1 : w.cell? ⟨m, 1, none⟩ = some (.map (some B))) (hr : w.cell? ⟨r, 0, none⟩ = some (.string (pre ++ name)))
    (hown : w.ownsMap Trym.prog 9 ptrElem B n D) (hs : name.size ≤ maxLen) (hps : (pre ++ name).size ≤ 9223372036854775807) (hat : D.atKey (keyLit name) .nil = .lit (.int .i64 p))
    (hpre : Hid (∀ q, Calls Trym.prog 17 #[.pointer (some ⟨m, 0, none⟩)] (w.drewN q) fun e w' => e = .returned (.string pre) ∧ w' = w.drewN q)) :
    Calls Trym.prog 18 #[.pointer (some ⟨m, 0, none⟩), .pointer (some ⟨r, 0, none⟩)] w fun e w' => e = .returned (.pointer (some ⟨p, 0, none⟩)) ∧ ∃ q, w' = w.drewN q := by
  have hlk : ∀ q, (Instr.lookup 29 (.map (some B)) (.string name) false).run Trym.prog (w.drewN q) = .ok (.pointer (some ⟨p, 0, none⟩)) (w.drewN q) := fun q => by
    obtain ⟨v, ps, hrun, hv⟩ := World.ownsMap.lookup (w := w.drewN q) hown law Trym.underlying29 (zero25 _) ptrElem_nil (key_is name hs)
    rw [hat] at hv
    rw [ptrElem_inv hv] at hrun
    exact hrun
  clear hat hown
  go_enter Trym.func18, Trym.ntmps18
  go_wp2_with fail
  go_quiet ((first | (go_at_call 17; exact Calls.quiet_of_same (hpre.out _)) | (go_at_call 20; exact Calls.quiet_of_same (trim_any _ _ _ hps))))
  go_wp2
  go_ret
  exact ⟨rfl, _, rfl⟩

theorem zzdef_any (m B n r p : Nat) (D : DataW Unit) (pre name : ByteArray) (w : World) (h1 : w.cell? ⟨m, 1, none⟩ = some (.map (some B))) (hr : w.cell? ⟨r, 0, none⟩ = some (.string (pre ++ name)))
    (hown : w.ownsMap Trym.prog 9 ptrElem B n D) (hs : name.size ≤ maxLen) (hps : (pre ++ name).size ≤ 9223372036854775807) (hat : D.atKey (keyLit name) .nil = .lit (.int .i64 p))
    (hpre : Hid (∀ q, Calls Trym.prog 17 #[.pointer (some ⟨m, 0, none⟩)] (w.drewN q) fun e w' => e = .returned (.string pre) ∧ w' = w.drewN q)) :
    Calls Trym.prog 15 #[.pointer (some ⟨m, 0, none⟩), .pointer (some ⟨r, 0, none⟩)] w fun e w' => e = .returned (.pointer (some ⟨p, 0, none⟩)) ∧ ∃ q, w' = w.drewN q := by
  go_enter Trym.func15, Trym.ntmps15
  go_wp2_with fail
  refine (def_any m B n r p D pre name w h1 hr hown hs hps hat hpre).mono ?_
  rintro e w' ⟨rfl, q, rfl⟩
  go_wp2
  go_ret
  exact ⟨rfl, _, rfl⟩
end Go.Proofs.Qxb6613032aMods.Def
