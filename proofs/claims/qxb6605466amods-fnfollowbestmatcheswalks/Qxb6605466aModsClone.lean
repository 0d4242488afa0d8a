import Derived.Test.Qxb6605466aModsRows
import Derived.WalkKit
import Derived.ProofKit
import Derived.WalkSpells
import Derived.WalkLawsBesides
import Derived.Deep.OwnRows
import Derived.Below
namespace Go.Proofs.Qxb6605466aMods
open Go.ChangeShapes Go.WideShapes Go.ChangeAt Go.RowKit

theorem Trym.info3 : (Trym.prog.info? 3).map (fun i => (i.zero, i.size, i.bytes)) = some (some (.int .i64 0), 1, 8) := by kernel_rfl

theorem eqNil : ∀ (w : World) (a : Option Addr) (n c n' c' : Nat), (binOp .eql 22 (.slice a n c) (.slice none n' c')).run Trym.prog w = .ok (.bool a.isNone) w :=
  fun w a n c n' c' => Lib.run_eql_slice_nil w _ _ a n c n' c' Trym.underlying22

theorem clone_nil (w : World) : Calls Trym.prog 7 #[.slice none 0 0] w fun e w' => e = .returned (.slice none 0 0) ∧ w' = w := by
  have q := eqNil
  go_enter Trym.func7, Trym.ntmps7
  go_wp2
  go_ret
  exact ⟨rfl, rfl⟩

set_option maxHeartbeats 400000 in
theorem clone_any (x : Addr) (b off n c : Nat) (a : Nat → Int) (w : World) (hn : n ≤ 4096) (hx : Hid (0 < n → x = ⟨b, off, none⟩)) (hc : ∀ j, j < n → w.cell? ⟨b, off + j, none⟩ = some (.int .i64 (a j))) :
    Calls Trym.prog 7 #[.slice (some x) n c] w fun e w' => e = .returned (.slice (some ⟨w.heap.size, 0, none⟩) n n) ∧ w'.rowIs w.heap.size 3 n (fun j => .int .i64 (a j)) ∧ Below w.heap.size w w' ∧ w'.heap.size = w.heap.size + 1 := by
  have q := eqNil
  have hmk := run_make_row' (P := Trym.prog) 22 3 (.int .i64 0) 8 Trym.underlying22 Trym.info3 rfl .i64 .i64 n (by omega) (by omega)
  go_enter Trym.func7, Trym.ntmps7
  go_wp2
  clear hmk q
  go_loopw [4] (fun i wr => ∃ k : Nat, k ≤ n ∧ i = .int .i64 k ∧ wr.rowIs w.heap.size 3 n (fun j => if j < k then .int .i64 (a j) else .int .i64 0) ∧ Below w.heap.size w wr ∧ wr.heap.size = w.heap.size + 1) (fun i _ => n - (intOf i).toNat)
  case atStart => exact ⟨0, by omega, rfl, (World.rowIs_made w (.int .i64 0) n 3).congr (fun i hi => by simp), (Below.refl _ _).alloc (Nat.le_refl _) _, by simp⟩
  case round =>
    obtain ⟨k, hk, rfl, HR, HB, HZ⟩ := hrel
    by_cases hlt : k < n
    · obtain rfl := hx.out (by omega)
      have h0 := hc k hlt
      have hb : b < w.heap.size := World.block_lt_of_cell? _ _ h0
      have h1 : wr.cell? ⟨b, off + k, none⟩ = some (.int .i64 (a k)) := by rw [HB.cell (p := ⟨b, off + k, none⟩) hb]; exact h0
      have h2 : wr.cell? ⟨w.heap.size, k, none⟩ = some (.int .i64 0) := by simpa using HR.cell hlt
      have h3 : wr.frozen? ⟨w.heap.size, k, none⟩ = false := HR.frozen k
      go_wp2
      go_roundw
      case rel =>
        refine ⟨k + 1, by omega, by go_num, (HR.set k (.int .i64 (a k))).congr (fun i hi => ?_), HB.setCell (Nat.le_refl _) _, by simp [World.setCell]; exact HZ⟩
        by_cases h : i = k
        · subst h; simp
        · by_cases h' : i < k
          · rw [if_neg h, if_pos h', if_pos (by omega)]
          · rw [if_neg h, if_neg h', if_neg (by omega)]
      case measure => simp [intOf]; omega
    · have hkn : k = n := by omega
      go_wp2
      go_ret
      exact ⟨rfl, HR.congr (fun i hi => by rw [if_pos (by omega)]), HB, HZ⟩
end Go.Proofs.Qxb6605466aMods
