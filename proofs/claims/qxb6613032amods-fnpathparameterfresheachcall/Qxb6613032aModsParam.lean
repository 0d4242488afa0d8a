/-
  THE WALKS UNDER FnPathParameterFreshEachCall.
-/
import Derived.Test.Qxb6613032aModsRows
import Derived.WalkKit
import Derived.ProofKit
import Derived.OpenShut
import Derived.ShutString
import Derived.ChangeOld
import Derived.Below
import Derived.WalkSpells
import Derived.WalkLawsBesides
import Derived.LaidEqlPtr
namespace Go.Proofs.Qxb6613032aMods
open Go.ChangeShapes Go.WideShapes Go.ChangeAt Go.RowKit

/-- A schema's block, its Type given. -/
def schemaObj (typ : ByteArray) : Obj :=
  .cells #[.string ⟨#[]⟩, .slice none 0 0, .string ⟨#[]⟩, .string typ, .string ⟨#[]⟩, .pointer none, .map none, .pointer none, .slice none 0 0] 32

set_option maxHeartbeats 400000 in
theorem param_two (s m : Nat) (name inn typ desc : ByteArray) (req : Bool) (w : World)
    (h1 : w.cell? ⟨s, 0, none⟩ = some (.pointer (some ⟨m, 0, none⟩))) (h2 : w.cell? ⟨m, 0, none⟩ = some (.bool false)) :
    Calls Trym.prog 19 #[.pointer (some ⟨s, 0, none⟩), .string name, .string inn, .string typ, .string desc, .bool req] w fun e w' => e = .returned (.pointer (some ⟨w.heap.size, 0, none⟩)) ∧
      w' = w.alloc (.cells #[.string name, .string inn, .string desc, .bool req, .string typ, .pointer none] 27) := by
  have hs : s < w.heap.size := World.block_lt_of_cell? _ _ h1
  have hm : m < w.heap.size := World.block_lt_of_cell? _ _ h2
  go_enter Trym.func19, Trym.ntmps19
  go_wp2
  go_ret
  exact ⟨rfl, rfl⟩

set_option maxHeartbeats 400000 in
theorem param_three (s m : Nat) (name inn typ desc : ByteArray) (req : Bool) (w : World)
    (h1 : w.cell? ⟨s, 0, none⟩ = some (.pointer (some ⟨m, 0, none⟩))) (h2 : w.cell? ⟨m, 0, none⟩ = some (.bool true)) :
    Calls Trym.prog 19 #[.pointer (some ⟨s, 0, none⟩), .string name, .string inn, .string typ, .string desc, .bool req] w fun e w' => e = .returned (.pointer (some ⟨w.heap.size, 0, none⟩)) ∧
      w' = (w.alloc (.cells #[.string name, .string inn, .string desc, .bool req, .string ⟨#[]⟩, .pointer (some ⟨w.heap.size + 1, 0, none⟩)] 27)).alloc (schemaObj typ) := by
  have hs : s < w.heap.size := World.block_lt_of_cell? _ _ h1
  have hm : m < w.heap.size := World.block_lt_of_cell? _ _ h2
  go_enter Trym.func19, Trym.ntmps19
  go_wp2
  go_ret
  exact ⟨rfl, rfl⟩

theorem path_two (s m : Nat) (name desc : ByteArray) (w : World)
    (h1 : w.cell? ⟨s, 0, none⟩ = some (.pointer (some ⟨m, 0, none⟩))) (h2 : w.cell? ⟨m, 0, none⟩ = some (.bool false)) :
    Calls Trym.prog 16 #[.pointer (some ⟨s, 0, none⟩), .string name, .string desc] w fun e w' => e = .returned (.pointer (some ⟨w.heap.size, 0, none⟩)) ∧
      w' = w.alloc (.cells #[.string name, .string ⟨#[112, 97, 116, 104]⟩, .string desc, .bool true, .string ⟨#[115, 116, 114, 105, 110, 103]⟩, .pointer none] 27) := by
  go_enter Trym.func16, Trym.ntmps16
  go_wp2_with (go_at_call 19; refine (param_two s m _ _ _ _ _ _ h1 h2).mono ?_; rintro e w' ⟨rfl, rfl⟩)
  go_ret
  exact ⟨rfl, rfl⟩

theorem path_three (s m : Nat) (name desc : ByteArray) (w : World)
    (h1 : w.cell? ⟨s, 0, none⟩ = some (.pointer (some ⟨m, 0, none⟩))) (h2 : w.cell? ⟨m, 0, none⟩ = some (.bool true)) :
    Calls Trym.prog 16 #[.pointer (some ⟨s, 0, none⟩), .string name, .string desc] w fun e w' => e = .returned (.pointer (some ⟨w.heap.size, 0, none⟩)) ∧
      w' = (w.alloc (.cells #[.string name, .string ⟨#[112, 97, 116, 104]⟩, .string desc, .bool true, .string ⟨#[]⟩, .pointer (some ⟨w.heap.size + 1, 0, none⟩)] 27)).alloc (schemaObj ⟨#[115, 116, 114, 105, 110, 103]⟩) := by
  go_enter Trym.func16, Trym.ntmps16
  go_wp2_with (go_at_call 19; refine (param_three s m _ _ _ _ _ _ h1 h2).mono ?_; rintro e w' ⟨rfl, rfl⟩)
  go_ret
  exact ⟨rfl, rfl⟩

/-- Block g is a plain row of cells. -/
def Row (w : World) (g : Nat) : Prop := ∃ c t, w.heap[g]? = some (.cells c t (0, 0))

theorem Row.below {w w' : World} {B g : Nat} (h : Row w g) (hb : Below B w w') (hg : g < B) : Row w' g := by
  obtain ⟨c, t, h⟩ := h
  exact ⟨c, t, (hb.block g hg).trans h⟩

theorem Row.new (w : World) (c : Array Value) (t : TypeId) : Row (w.alloc (.cells c t)) w.heap.size := ⟨c, t, by show (w.heap.push _)[w.heap.size]? = _; simp⟩

theorem Row.setCell {w : World} {g : Nat} (h : Row w g) (b o : Nat) (v : Value) : Row (w.setCell ⟨b, o, none⟩ v) g := by
  obtain ⟨c, t, h⟩ := h
  by_cases e : b = g
  · exact ⟨c.setIfInBounds o v, t, by simp [World.setCell, Array.getElem?_modify, e, h]⟩
  · exact ⟨c, t, by simp [World.setCell, Array.getElem?_modify, e, h]⟩

theorem Trym.size27 : (Trym.prog.info? 27).map (·.size) = some 6 := by kernel_rfl
theorem Trym.size32 : (Trym.prog.info? 32).map (·.size) = some 9 := by kernel_rfl

theorem ne_param {w : World} {g h : Nat} (hg : Row w g) (hh : Row w h) (hne : g ≠ h) :
    (binOp .eql 23 (.pointer (some ⟨g, 0, none⟩)) (.pointer (some ⟨h, 0, none⟩))).run Trym.prog w = .ok (.bool false) w := by
  obtain ⟨c, t, hg⟩ := hg
  obtain ⟨c', t', hh⟩ := hh
  obtain ⟨j, hj, hjs⟩ := Option.map_eq_some_iff.1 Trym.size27
  exact run_eql_ptr_other w Trym.underlying23 hj (by rw [hjs]; decide) (fun e => hne (congrArg Addr.block e)) hg hh

theorem ne_schema {w : World} {g h : Nat} (hg : Row w g) (hh : Row w h) (hne : g ≠ h) :
    (binOp .eql 25 (.pointer (some ⟨g, 0, none⟩)) (.pointer (some ⟨h, 0, none⟩))).run Trym.prog w = .ok (.bool false) w := by
  obtain ⟨c, t, hg⟩ := hg
  obtain ⟨c', t', hh⟩ := hh
  obtain ⟨j, hj, hjs⟩ := Option.map_eq_some_iff.1 Trym.size32
  exact run_eql_ptr_other w Trym.underlying25 hj (by rw [hjs]; decide) (fun e => hne (congrArg Addr.block e)) hg hh

/-- A parameter in memory, at the head of block g. -/
structure PA (w : World) (g : Nat) (name desc typ : ByteArray) (sch : Option Addr) : Prop where
  c0 : w.cell? ⟨g, 0, none⟩ = some (.string name)
  c1 : w.cell? ⟨g, 1, none⟩ = some (.string ⟨#[112, 97, 116, 104]⟩)
  c2 : w.cell? ⟨g, 2, none⟩ = some (.string desc)
  c3 : w.cell? ⟨g, 3, none⟩ = some (.bool true)
  c4 : w.cell? ⟨g, 4, none⟩ = some (.string typ)
  c5 : w.cell? ⟨g, 5, none⟩ = some (.pointer sch)
  fz : ∀ i, w.frozen? ⟨g, i, none⟩ = false
  row : Row w g

theorem PA.mk_at (w : World) (name desc typ : ByteArray) (sch : Option Addr) : PA (w.alloc (.cells #[.string name, .string ⟨#[112, 97, 116, 104]⟩, .string desc, .bool true, .string typ, .pointer sch] 27)) w.heap.size name desc typ sch :=
  ⟨by simp, by simp, by simp, by simp, by simp, by simp, fun i => by simp, Row.new _ _ _⟩

theorem PA.below {w w' : World} {B g : Nat} {name desc typ : ByteArray} {sch : Option Addr} (h : PA w g name desc typ sch) (hb : Below B w w') (hg : g < B) : PA w' g name desc typ sch :=
  ⟨(hb.cell (p := ⟨g, 0, none⟩) hg).trans h.c0, (hb.cell (p := ⟨g, 1, none⟩) hg).trans h.c1, (hb.cell (p := ⟨g, 2, none⟩) hg).trans h.c2, (hb.cell (p := ⟨g, 3, none⟩) hg).trans h.c3, (hb.cell (p := ⟨g, 4, none⟩) hg).trans h.c4, (hb.cell (p := ⟨g, 5, none⟩) hg).trans h.c5,
    fun i => (hb.frozen (p := ⟨g, i, none⟩) hg).trans (h.fz i), h.row.below hb hg⟩

/-- The world that ZZpathParameter has made ahead of the call. -/
def made (v3 : Bool) (w : World) : World :=
  (((w.alloc (Obj.map #[] 0)).alloc (Obj.cells #[Value.bool v3, Value.map (some w.heap.size)] 46)).alloc (Obj.map #[] 0)).alloc (Obj.cells #[Value.pointer (some { block := w.heap.size + 1, off := 0 }), Value.map (some (w.heap.size + 1 + 1))] 49)

theorem made_size (v3 : Bool) (w : World) : (made v3 w).heap.size = w.heap.size + 4 := by simp [made]
theorem made_below (v3 : Bool) (w : World) : Below w.heap.size w (made v3 w) :=
  ((((Below.refl _ _).alloc (Nat.le_refl _) _).alloc (by simp) _).alloc (by simp; omega) _).alloc (by simp; omega) _
theorem made_s (v3 : Bool) (w : World) : (made v3 w).cell? ⟨w.heap.size + 1 + 1 + 1, 0, none⟩ = some (.pointer (some ⟨w.heap.size + 1, 0, none⟩)) := by
  unfold made
  rw [World.cell?_alloc_at _ _ _ _ (by simp)]; rfl
theorem made_m (v3 : Bool) (w : World) : (made v3 w).cell? ⟨w.heap.size + 1, 0, none⟩ = some (.bool v3) := by
  unfold made
  rw [World.cell?_alloc_past _ _ _ (by simp only [World.size_alloc]; omega), World.cell?_alloc_past _ _ _ (by simp), World.cell?_alloc_at _ _ _ _ (by simp)]; rfl

set_option maxHeartbeats 400000 in
theorem zz_two (name desc : ByteArray) (w : World) :
    Calls Trym.prog 6 #[.bool false, .string name, .string desc] w fun e w' => ∃ g, e = .returned (.pointer (some ⟨g, 0, none⟩)) ∧ w.heap.size ≤ g ∧ g < w'.heap.size ∧ Below w.heap.size w w' ∧ PA w' g name desc ⟨#[115, 116, 114, 105, 110, 103]⟩ none := by
  have hmm := @run_makeMap Trym.prog
  go_enter Trym.func6, Trym.ntmps6
  go_wp2_with fail
  refine (path_two _ _ name desc (made false w) (made_s false w) (made_m false w)).mono ?_
  rintro e w1 ⟨rfl, hw1⟩
  have h1 : PA w1 (made false w).heap.size name desc ⟨#[115, 116, 114, 105, 110, 103]⟩ none := by rw [hw1]; exact PA.mk_at _ _ _ _ _
  have h2 : Below w.heap.size w w1 := by rw [hw1]; exact (made_below false w).alloc (by rw [made_size]; omega) _
  have h3 : (made false w).heap.size < w1.heap.size := by rw [hw1]; simp
  rw [made_size] at h1 h3 ⊢
  clear hw1
  go_wp2
  go_ret
  exact ⟨_, rfl, by omega, h3, h2, h1⟩

set_option maxHeartbeats 400000 in
theorem zz_three (name desc : ByteArray) (w : World) :
    Calls Trym.prog 6 #[.bool true, .string name, .string desc] w fun e w' => ∃ g h, e = .returned (.pointer (some ⟨g, 0, none⟩)) ∧ w.heap.size ≤ g ∧ g < h ∧ h < w'.heap.size ∧ Below w.heap.size w w' ∧ PA w' g name desc ⟨#[]⟩ (some ⟨h, 0, none⟩) ∧
      w'.cell? ⟨h, 3, none⟩ = some (.string ⟨#[115, 116, 114, 105, 110, 103]⟩) ∧ w'.frozen? ⟨h, 3, none⟩ = false ∧ Row w' h := by
  have hmm := @run_makeMap Trym.prog
  go_enter Trym.func6, Trym.ntmps6
  go_wp2_with fail
  refine (path_three _ _ name desc (made true w) (made_s true w) (made_m true w)).mono ?_
  rintro e w1 ⟨rfl, hw1⟩
  have h1 : PA w1 (made true w).heap.size name desc ⟨#[]⟩ (some ⟨(made true w).heap.size + 1, 0, none⟩) := by
    rw [hw1]
    exact (PA.mk_at _ _ _ _ _).below (B := (made true w).heap.size + 1) ((Below.refl _ _).alloc (by simp) _) (by omega)
  have h2 : Below w.heap.size w w1 := by rw [hw1]; exact ((made_below true w).alloc (by rw [made_size]; omega) _).alloc (by simp [made_size]; omega) _
  have h3 : (made true w).heap.size + 1 < w1.heap.size := by rw [hw1]; simp
  have h4 : w1.cell? ⟨(made true w).heap.size + 1, 3, none⟩ = some (.string ⟨#[115, 116, 114, 105, 110, 103]⟩) := by rw [hw1]; simp [schemaObj]
  have h5 : w1.frozen? ⟨(made true w).heap.size + 1, 3, none⟩ = false := by rw [hw1]; simp [schemaObj]
  have h6 : Row w1 ((made true w).heap.size + 1) := by
    rw [hw1]
    have := Row.new ((made true w).alloc (.cells #[.string name, .string ⟨#[112, 97, 116, 104]⟩, .string desc, .bool true, .string ⟨#[]⟩, .pointer (some ⟨(made true w).heap.size + 1, 0, none⟩)] 27)) #[.string ⟨#[]⟩, .slice none 0 0, .string ⟨#[]⟩, .string ⟨#[115, 116, 114, 105, 110, 103]⟩, .string ⟨#[]⟩, .pointer none, .map none, .pointer none, .slice none 0 0] 32
    rw [World.size_alloc] at this
    exact this
  rw [made_size] at h1 h3 h4 h5 h6 ⊢
  clear hw1
  go_wp2
  go_ret
  exact ⟨_, _, rfl, by omega, by omega, h3, h2, h1, h4, h5, h6⟩

theorem common_any (name desc : ByteArray) (w : World) :
    Calls Trym.prog 7 #[.string name, .string ⟨#[112, 97, 116, 104]⟩, .string desc, .bool true, .string name, .string desc] w fun e w' => e = .returned (.bool true) ∧ w' = w := by
  go_enter Trym.func7, Trym.ntmps7
  go_wp2
  go_ret
  exact ⟨rfl, rfl⟩

theorem type_two (w : World) :
    Calls Trym.prog 8 #[.bool false, .string ⟨#[115, 116, 114, 105, 110, 103]⟩, .bool false, .string ⟨#[]⟩] w fun e w' => e = .returned (.bool true) ∧ w' = w := by
  go_enter Trym.func8, Trym.ntmps8
  go_wp2
  go_ret
  exact ⟨rfl, rfl⟩

theorem type_three (w : World) :
    Calls Trym.prog 8 #[.bool true, .string ⟨#[]⟩, .bool true, .string ⟨#[115, 116, 114, 105, 110, 103]⟩] w fun e w' => e = .returned (.bool true) ∧ w' = w := by
  go_enter Trym.func8, Trym.ntmps8
  go_wp2
  go_ret
  exact ⟨rfl, rfl⟩

/-- The call answers some bool. -/
def ABool (e : Ending) : Prop := ∃ r : Bool, e = .returned (.bool r)

theorem bytes_any (v3 : Bool) (name desc : ByteArray) (w : World) (h1 : name.size ≤ 9223372036854775807) (h2 : desc.size ≤ 9223372036854775807) :
    Calls Trym.prog 5 #[.bool v3, .string name, .string desc] w fun e w' => ABool e ∧ w' = w := by
  go_enter Trym.func5, Trym.ntmps5
  go_wp2
  all_goals (go_ret; exact ⟨⟨_, rfl⟩, rfl⟩)
end Go.Proofs.Qxb6613032aMods
