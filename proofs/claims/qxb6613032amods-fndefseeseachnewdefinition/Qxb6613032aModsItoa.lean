/-
  THE WALK OF zzItoa.
-/
import Derived.Test.Qxb6613032aModsRows
import Derived.WalkKit
import Derived.ProofKit
import Derived.Below
import Derived.WalkSpells
import Derived.WalkLawsBesides
import Derived.Laws.BytesArg
import Derived.Deep.OwnRows
import Derived.Deep.LoopGhost
namespace Go.Proofs.Qxb6613032aMods.Def
open Go.ChangeShapes Go.WideShapes Go.ChangeAt Go.RowKit

/-- The decimal digits of u ahead of L, as bytes. -/
def digs : Nat → Nat → List Int → List Int
  | 0, _, L => L
  | f + 1, u, L => if u / 10 = 0 then (48 + (u : Int) % 10) :: L else digs f (u / 10) ((48 + (u : Int) % 10) :: L)

/-- What zzItoa writes. -/
def itoaS (i : Nat) : ByteArray := strOfNums (digs 24 i [])

/-- The buffer: the digits so far stand at its end. -/
structure Buf (B : Nat) (w wr : World) (n : Nat) (L : List Int) : Prop where
  row : ∃ c : Nat → Int, wr.rowIs B 53 24 (fun j => .int .u8 (c j)) ∧ ∀ j, j < L.length → c (n + j) = L.getD j 0
  len : L.length + n = 24
  bel : Below B w wr

theorem Buf.step {B : Nat} {w wr : World} {n : Nat} {L : List Int} (h : Buf B w wr (n + 1) L) (x : Int) : Buf B w (wr.setCell ⟨B, n, none⟩ (.int .u8 x)) n (x :: L) := by
  obtain ⟨⟨c, hr, hc⟩, hl, hb⟩ := h
  refine ⟨⟨fun j => if j = n then x else c j, (hr.set n _).congr (fun j _ => by by_cases e : j = n <;> simp [e]), fun j hj => ?_⟩, by simp; omega, hb.setCell (Nat.le_refl _) _⟩
  cases j with
  | zero => simp
  | succ j =>
    have := hc j (by simpa using hj)
    rw [show n + 1 + j = n + (j + 1) by omega] at this
    simp [this]

theorem Buf.cell {B : Nat} {w wr : World} {n : Nat} {L : List Int} (h : Buf B w wr n L) (j : Nat) (hj : j < L.length) : wr.cell? ⟨B, n + j, none⟩ = some (.int .u8 (L.getD j 0)) := by
  obtain ⟨⟨c, hr, hc⟩, hl, hb⟩ := h
  rw [← hc j hj]
  exact hr.cell (by omega)

theorem half {u n : Nat} (h : u < 2 ^ (n + 1)) : u / 10 < 2 ^ n := by
  rw [Nat.pow_succ] at h
  omega

theorem zeros24 (j : Nat) (hj : j < 24) : (#[Value.int IntKind.u8 0, Value.int IntKind.u8 0, Value.int IntKind.u8 0, Value.int IntKind.u8 0,
      Value.int IntKind.u8 0, Value.int IntKind.u8 0, Value.int IntKind.u8 0, Value.int IntKind.u8 0,
      Value.int IntKind.u8 0, Value.int IntKind.u8 0, Value.int IntKind.u8 0, Value.int IntKind.u8 0,
      Value.int IntKind.u8 0, Value.int IntKind.u8 0, Value.int IntKind.u8 0, Value.int IntKind.u8 0,
      Value.int IntKind.u8 0, Value.int IntKind.u8 0, Value.int IntKind.u8 0, Value.int IntKind.u8 0,
      Value.int IntKind.u8 0, Value.int IntKind.u8 0, Value.int IntKind.u8 0, Value.int IntKind.u8 0])[j]? = some (Value.int IntKind.u8 0) := by
  have h : j = 0 ∨ j = 1 ∨ j = 2 ∨ j = 3 ∨ j = 4 ∨ j = 5 ∨ j = 6 ∨ j = 7 ∨ j = 8 ∨ j = 9 ∨ j = 10 ∨ j = 11 ∨ j = 12 ∨ j = 13 ∨ j = 14 ∨ j = 15 ∨ j = 16 ∨ j = 17 ∨ j = 18 ∨ j = 19 ∨ j = 20 ∨ j = 21 ∨ j = 22 ∨ j = 23 := by omega
  rcases h with rfl | rfl | rfl | rfl | rfl | rfl | rfl | rfl | rfl | rfl | rfl | rfl | rfl | rfl | rfl | rfl | rfl | rfl | rfl | rfl | rfl | rfl | rfl | rfl <;> rfl

theorem len53 : Trym.prog.arrayLen 53 = 24 := by kernel_rfl
theorem elem53 : Trym.prog.elem 53 = 5 := by kernel_rfl
theorem size5 (W : World) : (sizeOf 5).run Trym.prog W = .ok 1 W := by kernel_rfl

theorem run_tail (B N : Nat) (W : World) (h : N < 24) :
    (Instr.sliceAt 53 (.pointer (some ⟨B, 0, none⟩)) (some (.int .i64 N)) none none).run Trym.prog W = .ok (.slice (some ⟨B, N, none⟩) (24 - N) (24 - N)) W := by
  rw [run_sliceAt_array_l W 53 ⟨B, 0, none⟩ (by rw [len53, elem53]; exact Trym.underlying53) .i64 N (by omega) (by rw [len53]; omega)]
  rw [elem53, size5, len53]
  have e : ¬ 24 = N := by omega
  simp [Result.andThen, slicedAt, e, Addr.add]
  omega

set_option maxHeartbeats 400000 in
theorem itoa_any (i : Nat) (w : World) (hi : i < 4096) :
    Calls Trym.prog 13 #[.int .i64 i] w fun e w' => e = .returned (.string (itoaS i)) ∧ Below w.heap.size w w' := by
  have hd : decide ((i : Int) < 0) = false := decide_eq_false (by omega)
  go_enter Trym.func13, Trym.ntmps13
  go_wp2
  go_loopw [3, 6] (fun u n wr => ∃ (U N : Nat) (L : List Int), U < 4096 ∧ N < 24 ∧ Hid (U < 2 ^ (N + 1)) ∧ u = .int .u64 U ∧ n = .int .i64 (N + 1) ∧ Hid (digs (N + 1) U L = digs 24 i []) ∧ Buf w.heap.size w wr (N + 1) L) (fun _ n _ => (intOf n).toNat)
  case atStart =>
    refine ⟨i, 23, [], hi, by omega, ?_, rfl, rfl, rfl, ⟨⟨fun _ => 0, ?_, fun j hj => by simp at hj⟩, rfl, (Below.refl _ _).alloc (Nat.le_refl _) _⟩⟩
    · show i < 2 ^ 24
      omega
    · refine World.rowIs_alloc w _ 53 _ (fun j hj => ?_)
      exact zeros24 j hj
  case round =>
    obtain ⟨U, N, L, hU, hN, HP, rfl, rfl, HD, HB⟩ := hrel
    obtain ⟨v, hv⟩ : ∃ v, wr.cell? ⟨w.heap.size, N, none⟩ = some v := by
      obtain ⟨⟨c, hr, -⟩, -, -⟩ := HB
      exact ⟨_, hr.cell (by omega)⟩
    have hf : wr.frozen? ⟨w.heap.size, N, none⟩ = false := by
      obtain ⟨⟨c, hr, -⟩, -, -⟩ := HB
      exact hr.frozen N
    have HB2 := HB.step (48 + (U : Int) % 10)
    by_cases hz : U / 10 = 0
    · have hz' : ((U : Int) / 10 == 0) = true := by simp; omega
      have ht := run_tail w.heap.size N (wr.setCell ⟨w.heap.size, N, none⟩ (.int .u8 (48 + (U : Int) % 10))) hN
      have hl : ((48 + (U : Int) % 10) :: L).length = 24 - N := by have := HB2.len; omega
      have hcv := run_convert_bytes_arg (P := Trym.prog) (wr.setCell ⟨w.heap.size, N, none⟩ (.int .u8 (48 + (U : Int) % 10))) 54 5 Trym.underlying54 Trym.underlying5 w.heap.size N (24 - N) (24 - N) ((48 + (U : Int) % 10) :: L) hl (fun j hj => HB2.cell j (by rw [hl]; exact hj)) 9 Trym.underlying9
      have hds : (48 + (U : Int) % 10) :: L = digs 24 i [] := by
        rw [← HD.out]
        show _ = (if U / 10 = 0 then _ else _)
        rw [if_pos hz]
      rw [hds] at hcv
      have hcv2 : (convert 54 9 (.slice (some ⟨w.heap.size, N, none⟩) (24 - N) (24 - N))).run Trym.prog (wr.setCell ⟨w.heap.size, N, none⟩ (.int .u8 (48 + (U : Int) % 10))) = .ok (.string (itoaS i)) (wr.setCell ⟨w.heap.size, N, none⟩ (.int .u8 (48 + (U : Int) % 10))) := hcv
      have HBel := HB2.bel
      clear hcv hds hl HB HB2
      go_wp2
      go_ret
      exact ⟨rfl, HBel⟩
    · have hz' : ((U : Int) / 10 == 0) = false := by rw [beq_eq_false_iff_ne]; omega
      obtain ⟨M, rfl⟩ : ∃ M, N = M + 1 := by
        cases N with
        | zero =>
          have := HP.out
          omega
        | succ M => exact ⟨M, rfl⟩
      have hp2 := half HP.out
      have HP2 : Hid (U / 10 < 2 ^ (M + 1)) := hp2
      clear hp2 HB
      go_wp2
      go_roundw
      case rel =>
        refine ⟨U / 10, M, _, by omega, by omega, HP2, by go_num, by go_num, ?_, HB2⟩
        show digs (M + 1) (U / 10) ((48 + (U : Int) % 10) :: L) = digs 24 i []
        rw [← HD.out]
        show _ = (if U / 10 = 0 then _ else _)
        rw [if_neg hz]
      case measure => simp [intOf]; omega
end Go.Proofs.Qxb6613032aMods.Def
