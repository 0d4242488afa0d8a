/-
  THE WALK OF FnPathParameterFreshEachCall, v3 false.
-/
import Derived.Test.Qxb6613032aModsParam
import Derived.Deep.QuietTactic
import Derived.BigQuiet
namespace Go.Proofs.Qxb6613032aMods.fnPath
open Go.ChangeShapes Go.WideShapes Go.ChangeAt Go.RowKit
open Go.ChangeMaps (open_string shut_string)
set_option linter.unusedVariables false

theorem own : ownKnob Trym.prog.godebug = none := by kernel_rfl
theorem laidOut : laidOutB Trym.prog = true := by kernel_rfl

theorem PA_other {w : World} {g : Nat} {name desc typ : ByteArray} {sch : Option Addr} (h : PA w g name desc typ sch) (b o : Nat) (hb : b ≠ g) (v : Value) : PA (w.setCell ⟨b, o, none⟩ v) g name desc typ sch := by
  have e : (w.setCell ⟨b, o, none⟩ v).heap[g]? = w.heap[g]? := Below.heap_setCell w ⟨b, o, none⟩ v g (fun e => hb e.symm)
  exact ⟨(World.cell?_of_block (a := ⟨g, 0, none⟩) e).trans h.c0, (World.cell?_of_block (a := ⟨g, 1, none⟩) e).trans h.c1, (World.cell?_of_block (a := ⟨g, 2, none⟩) e).trans h.c2, (World.cell?_of_block (a := ⟨g, 3, none⟩) e).trans h.c3,
    (World.cell?_of_block (a := ⟨g, 4, none⟩) e).trans h.c4, (World.cell?_of_block (a := ⟨g, 5, none⟩) e).trans h.c5, fun i => (World.frozen?_of_block (a := ⟨g, i, none⟩) e).trans (h.fz i), h.row.setCell _ _ _⟩

theorem size_set (w : World) (a : Addr) (v : Value) : (w.setCell a v).heap.size = w.heap.size := by simp [World.setCell]

/-- p1 is overwritten, field by field. -/
def over1 (w : World) (g : Nat) (s0 s1 s2 s4 : ByteArray) : World :=
  ((((w.setCell ⟨g, 0, none⟩ (.string s0)).setCell ⟨g, 1, none⟩ (.string s1)).setCell ⟨g, 2, none⟩ (.string s2)).setCell ⟨g, 3, none⟩ (.bool false)).setCell ⟨g, 4, none⟩ (.string s4)

theorem over1_size (w : World) (g : Nat) (s0 s1 s2 s4 : ByteArray) : (over1 w g s0 s1 s2 s4).heap.size = w.heap.size := by simp only [over1, size_set]
theorem over1_PA {w : World} {g' : Nat} {name desc typ : ByteArray} {sch : Option Addr} (h : PA w g' name desc typ sch) (g : Nat) (s0 s1 s2 s4 : ByteArray) (hb : g ≠ g') : PA (over1 w g s0 s1 s2 s4) g' name desc typ sch :=
  PA_other (PA_other (PA_other (PA_other (PA_other h g 0 hb _) g 1 hb _) g 2 hb _) g 3 hb _) g 4 hb _
theorem over1_row {w : World} {g' : Nat} (h : Row w g') (g : Nat) (s0 s1 s2 s4 : ByteArray) : Row (over1 w g s0 s1 s2 s4) g' :=
  ((((h.setCell _ _ _).setCell _ _ _).setCell _ _ _).setCell _ _ _).setCell _ _ _
theorem over1_below {B : Nat} {a w : World} (h : Below B a w) (g : Nat) (s0 s1 s2 s4 : ByteArray) (hg : B ≤ g) : Below B a (over1 w g s0 s1 s2 s4) :=
  ((((h.setCell hg _).setCell hg _).setCell hg _).setCell hg _).setCell hg _

theorem after_two {w0 w1 w2 w3 : World} {g1 g2 g3 : Nat} {name desc typ s0 s1 s2 s4 : ByteArray} {sch : Option Addr} (hg1 : w0.heap.size ≤ g1) (hl1 : g1 < w1.heap.size) (hg2 : w1.heap.size ≤ g2) (hl2 : g2 < w2.heap.size)
    (HB1 : Below w0.heap.size w0 w1) (HB2 : Below w1.heap.size w1 w2) (ar : Row w2 g1) (HP2 : PA w2 g2 name desc typ sch)
    (hg3 : (over1 w2 g1 s0 s1 s2 s4).heap.size ≤ g3) (HB3 : Below (over1 w2 g1 s0 s1 s2 s4).heap.size (over1 w2 g1 s0 s1 s2 s4) w3) :
    PA w3 g2 name desc typ sch ∧ Row w3 g1 ∧ Below w0.heap.size w0 w3 ∧ g1 < g2 ∧ g2 < g3 := by
  have z1 := HB1.size
  have z2 := HB2.size
  rw [over1_size] at HB3 hg3
  refine ⟨(over1_PA HP2 g1 _ _ _ _ (by omega)).below HB3 hl2, (over1_row ar g1 _ _ _ _).below HB3 (by omega), ?_, by omega, by omega⟩
  exact (over1_below (HB1.trans (HB2.mono z1)) g1 _ _ _ _ hg1).trans (HB3.mono (by omega))

set_option maxHeartbeats 800000 in
set_option maxRecDepth 100000 in
theorem walk_two (name desc : ByteArray) (w : World) (hn : name.size ≤ 524288) (hd : desc.size ≤ 524288) :
    Calls Trym.prog 3 #[.bool false, .string name, .string desc] w fun e w' => e = .returned (.bool true) ∧ Below w.heap.size w w' := by
  have hd1 : decide ((524288 : Int) < (name.size : Int)) = false := decide_eq_false (by omega)
  have hd2 : decide ((524288 : Int) < (desc.size : Int)) = false := decide_eq_false (by omega)
  go_enter Trym.func3, Trym.ntmps3
  go_wp2_with fail
  refine (bytes_any false name desc w (by omega) (by omega)).mono ?_
  rintro e w0 ⟨⟨r, rfl⟩, rfl⟩
  cases r
  · go_wp2
    go_ret
    exact ⟨rfl, Below.refl _ _⟩
  · go_wp2_with fail
    refine (zz_two name desc _).mono ?_
    rintro e w1 ⟨g1, rfl, hg1, hl1, HB1, HP1⟩
    go_wp2_with fail
    refine (zz_two name desc _).mono ?_
    rintro e w2 ⟨g2, rfl, hg2, hl2, HB2, HP2⟩
    have HP12 := HP1.below HB2 hl1
    obtain ⟨a0, a1, a2, a3, a4, a5, af, ar⟩ := HP12
    have q12 := ne_param ar HP2.row (by omega)
    go_wp2_with fail
    refine (zz_two name desc _).mono ?_
    rintro e w3 ⟨g3, rfl, hg3, hl3, HB3, HP3⟩
    obtain ⟨HP23, R1, HB, hgg, hgg2⟩ := after_two hg1 hl1 hg2 hl2 HB1 HB2 ar HP2 hg3 HB3
    clear HB3 HB2 HB1 HP1 HP2 q12 ar af a0 a1 a2 a3 a4 a5 hg1 hl1 hg2 hl2 hg3
    have q31 := ne_param HP3.row R1 (by omega)
    have q32 := ne_param HP3.row HP23.row (by omega)
    obtain ⟨b0, b1, b2, b3, b4, b5, -, -⟩ := HP23
    obtain ⟨c0, c1, c2, c3, c4, c5, -, -⟩ := HP3
    go_wp2_with fail
    clear q31 q32 R1
    go_quiet ((first | (go_at_call 7; exact Calls.quiet_of_same (common_any _ _ _)) | (go_at_call 8; exact Calls.quiet_of_same (type_two _))))
    go_wp2
    go_ret
    exact ⟨rfl, below_drewN HB _⟩
end Go.Proofs.Qxb6613032aMods.fnPath
