/-
  THE WALK OF FnPathParameterFreshEachCall, v3 true.
-/
import Derived.Test.Qxb6613032aModsPathTwo
import Derived.Deep.QuietTactic
import Derived.BigQuiet
namespace Go.Proofs.Qxb6613032aMods.fnPath
open Go.ChangeShapes Go.WideShapes Go.ChangeAt Go.RowKit
open Go.ChangeMaps (open_string shut_string)
set_option linter.unusedVariables false


/-- p1 and its schema are overwritten, field by field. -/
theorem after_three {w0 w1 w2 w3 : World} {g1 g2 g3 k1 k2 k3 : Nat} {name desc typ t3 s0 s1 s2 s4 s5 : ByteArray} {sch : Option Addr} (hg1 : w0.heap.size ≤ g1) (hk1 : g1 < k1) (hl1 : k1 < w1.heap.size) (hg2 : w1.heap.size ≤ g2) (hk2 : g2 < k2) (hl2 : k2 < w2.heap.size)
    (HB1 : Below w0.heap.size w0 w1) (HB2 : Below w1.heap.size w1 w2) (ar : Row w2 g1) (HP2 : PA w2 g2 name desc typ sch) (hs : w2.cell? ⟨k2, 3, none⟩ = some (.string t3))
    (hg3 : (over1 (w2.setCell ⟨k1, 3, none⟩ (.string s5)) g1 s0 s1 s2 s4).heap.size ≤ g3) (hk3 : g3 < k3) (HB3 : Below (over1 (w2.setCell ⟨k1, 3, none⟩ (.string s5)) g1 s0 s1 s2 s4).heap.size (over1 (w2.setCell ⟨k1, 3, none⟩ (.string s5)) g1 s0 s1 s2 s4) w3) :
    PA w3 g2 name desc typ sch ∧ Row w3 g1 ∧ Below w0.heap.size w0 w3 ∧ w3.cell? ⟨k2, 3, none⟩ = some (.string t3) ∧ g1 < g2 ∧ g2 < g3 := by
  have z1 := HB1.size
  have z2 := HB2.size
  rw [over1_size, size_set] at HB3 hg3
  refine ⟨(over1_PA (PA_other HP2 k1 3 (by omega) _) g1 _ _ _ _ (by omega)).below HB3 (by omega), (over1_row (ar.setCell k1 3 _) g1 _ _ _ _).below HB3 (by omega), ?_, ?_, by omega, by omega⟩
  · exact (over1_below ((HB1.trans (HB2.mono z1)).setCell (p := ⟨k1, 3, none⟩) (by show _ ≤ k1; omega) _) g1 _ _ _ _ hg1).trans (HB3.mono (by omega))
  · rw [HB3.cell (p := ⟨k2, 3, none⟩) hl2]
    have e : (over1 (w2.setCell ⟨k1, 3, none⟩ (.string s5)) g1 s0 s1 s2 s4).heap[k2]? = w2.heap[k2]? := by
      unfold over1
      rw [Below.heap_setCell _ _ _ _ (by show k2 ≠ g1; omega), Below.heap_setCell _ _ _ _ (by show k2 ≠ g1; omega), Below.heap_setCell _ _ _ _ (by show k2 ≠ g1; omega), Below.heap_setCell _ _ _ _ (by show k2 ≠ g1; omega), Below.heap_setCell _ _ _ _ (by show k2 ≠ g1; omega), Below.heap_setCell _ _ _ _ (by show k2 ≠ k1; omega)]
    rw [World.cell?_of_block (w := w2) (a := ⟨k2, 3, none⟩) e]
    exact hs

theorem PA_drewN {w : World} {g : Nat} {name desc typ : ByteArray} {sch : Option Addr} (h : PA w g name desc typ sch) (q : Nat) : PA (w.drewN q) g name desc typ sch :=
  ⟨h.c0, h.c1, h.c2, h.c3, h.c4, h.c5, h.fz, h.row⟩

set_option maxHeartbeats 1600000 in
set_option maxRecDepth 100000 in
theorem walk_three (name desc : ByteArray) (w : World) (hn : name.size ≤ 524288) (hd : desc.size ≤ 524288) :
    Calls Trym.prog 3 #[.bool true, .string name, .string desc] w fun e w' => e = .returned (.bool true) ∧ Below w.heap.size w w' := by
  have hd1 : decide ((524288 : Int) < (name.size : Int)) = false := decide_eq_false (by omega)
  have hd2 : decide ((524288 : Int) < (desc.size : Int)) = false := decide_eq_false (by omega)
  go_enter Trym.func3, Trym.ntmps3
  go_wp2_with fail
  refine (bytes_any true name desc w (by omega) (by omega)).mono ?_
  rintro e w0 ⟨⟨r, rfl⟩, rfl⟩
  cases r
  · go_wp2
    go_ret
    exact ⟨rfl, Below.refl _ _⟩
  · go_wp2_with fail
    refine (zz_three name desc _).mono ?_
    rintro e w1 ⟨g1, k1, rfl, hg1, hk1, hl1, HB1, HP1, hs1, hf1, R1⟩
    go_wp2_with fail
    refine (zz_three name desc _).mono ?_
    rintro e w2 ⟨g2, k2, rfl, hg2, hk2, hl2, HB2, HP2, hs2, hf2, R2⟩
    have HP12 := HP1.below HB2 (by omega)
    have hs12 := (HB2.cell (p := ⟨k1, 3, none⟩) hl1).trans hs1
    have hf12 := (HB2.frozen (p := ⟨k1, 3, none⟩) hl1).trans hf1
    have R12 := R1.below HB2 hl1
    clear hs1 hf1 R1 HP1
    have b5 := HP2.c5
    obtain ⟨a0, a1, a2, a3, a4, a5, af, ar⟩ := HP12
    have q12 := ne_param ar HP2.row (by omega)
    have qs : ∀ q, (binOp .eql 25 (.pointer (some ⟨k1, 0, none⟩)) (.pointer (some ⟨k2, 0, none⟩))).run Trym.prog (w2.drewN q) = .ok (.bool false) (w2.drewN q) := fun q => ne_schema (w := w2.drewN q) R12 R2 (by omega)
    go_wp2_with fail
    go_quiet (fail)
    go_wp2_with fail
    refine (zz_three name desc _).mono ?_
    rintro e w3 ⟨g3, k3, rfl, hg3, hk3, hl3, HB3, HP3, hs3, -, -⟩
    obtain ⟨HP23, R1, HB, hs23, hgg, hgg2⟩ := after_three hg1 hk1 hl1 hg2 hk2 (show k2 < (w2.drewN nq).heap.size from hl2) HB1 (below_drewN HB2 nq) (show Row (w2.drewN nq) g1 from ar) (PA_drewN HP2 nq) (show (w2.drewN nq).cell? ⟨k2, 3, none⟩ = _ from hs2) hg3 hk3 HB3
    clear HB3 HB2 HB1 HP2 q12 qs ar af a0 a1 a2 a3 a4 a5 b5 hs12 hf12 R12 hs2 hf2 R2 hg1 hl1 hg2 hl2 hg3
    have q31 := ne_param HP3.row R1 (by omega)
    have q32 := ne_param HP3.row HP23.row (by omega)
    obtain ⟨b0, b1, b2, b3, b4, b5, -, -⟩ := HP23
    obtain ⟨c0, c1, c2, c3, c4, c5, -, -⟩ := HP3
    go_wp2_with fail
    clear q31 q32 R1
    go_quiet ((first | (go_at_call 7; exact Calls.quiet_of_same (common_any _ _ _)) | (go_at_call 8; exact Calls.quiet_of_same (type_three _))))
    go_wp2
    go_ret
    exact ⟨rfl, below_drewN HB _⟩
end Go.Proofs.Qxb6613032aMods.fnPath
