/-
  THE WALK OF followBest.
-/
import Derived.Test.Qxb6605466aModsFollowParts
import Derived.Test.Qxb6605466aModsClone
import Derived.WalkSpells
import Derived.WalkLawsBesides
import Derived.Deep.LoopGhost
import Derived.OwnWalk
namespace Go.Proofs.Qxb6605466aMods
open Go.ChangeShapes Go.WideShapes Go.ChangeAt Go.RowKit
open Ring (it it_step it_nonneg it_lt it_add it_stays OnR Goes Lst)

theorem hide_it {p : Prop} (h : p) : Hid p := h

theorem Trym.info4 : (Trym.prog.info? 4).map (fun i => (i.zero, i.size, i.bytes)) = some (some (.bool false), 1, 1) := by kernel_rfl

theorem wd_start (w : World) (n : Nat) :
    Wd w.heap.size w (((w.alloc (.cells (madeCells #[.int .i64 0] n) 3)).alloc (.cells (madeCells #[.bool false] n) 4)).alloc (.cells (madeCells #[.bool false] n) 4)) n (fun _ => 0) (fun _ => false) (fun _ => false) := by
  have h1 := World.rowIs_made w (.int .i64 0) n 3
  have h2 := World.rowIs_made (w.alloc (.cells (madeCells #[.int .i64 0] n) 3)) (.bool false) n 4
  have h3 := World.rowIs_made ((w.alloc (.cells (madeCells #[.int .i64 0] n) 3)).alloc (.cells (madeCells #[.bool false] n) 4)) (.bool false) n 4
  simp only [World.size_alloc] at h2 h3
  exact ⟨(h1.alloc _).alloc _, h2.alloc _, h3, (((Below.refl _ _).alloc (Nat.le_refl _) _).alloc (by simp) _).alloc (by simp; omega) _, by simp⟩

/-- What followBest leaves. -/
structure Fol (B : Nat) (w w' : World) (n : Nat) (f : Nat → Int) (ring reach : Nat → Bool) (R : Nat) : Prop where
  rr : w'.rowIs (B + 1) 4 n (fun j => .bool (ring j))
  rb : w'.rowIs (B + 2) 4 n (fun j => .bool (reach j))
  bel : Below B w w'
  ring : ∀ j : Nat, j < n → (ring j = true ↔ OnR f j)
  reach : ∀ j : Nat, j < n → (reach j = true ↔ Goes f j)
  cnt : Ring.Cnt (fun j : Nat => OnR f j ∧ Lst f j) n R

theorem Fol.of {B : Nat} {w wr : World} {n : Nat} {f seen : Nat → Int} {ring reach : Nat → Bool} {R : Nat} (HO : Ring.Out f n n seen ring reach R) (HW : Wd B w wr n seen ring reach) : Fol B w wr n f ring reach R :=
  ⟨HW.rr, HW.rb, HW.bel, fun j hj => by rw [HO.ring j hj]; simp [HO.upto j hj], fun j hj => HO.reach j hj (HO.upto j hj), HO.cnt.congr fun j hj => by simp [HO.upto j hj]⟩

set_option maxHeartbeats 1600000 in
set_option maxRecDepth 100000 in
theorem follow_any (ao0 : Option Addr) (b off n c : Nat) (f : Nat → Int) (w : World) (hn : n ≤ 4096) (hx : Hid (0 < n → ao0 = some ⟨b, off, none⟩ ∧ b < w.heap.size)) (hf : Hid (∀ j, j < n → f j < n)) (hc : Hid (∀ j, j < n → w.cell? ⟨b, off + j, none⟩ = some (.int .i64 (f j)))) :
    Calls Trym.prog 16 #[.slice ao0 n c] w fun e w' => ∃ (ring reach : Nat → Bool) (R : Nat), e = .returned (.tuple #[.slice (some ⟨w.heap.size + 1, 0, none⟩) n n, .slice (some ⟨w.heap.size + 2, 0, none⟩) n n, .int .i64 R]) ∧ Fol w.heap.size w w' n f ring reach R := by
  obtain ⟨i0, hi, hz0, hz1, hz2⟩ := info_parts Trym.info3
  have hmk := run_make_row' (P := Trym.prog) 22 3 (.int .i64 0) 8 Trym.underlying22 Trym.info3 rfl .i64 .i64 n (by omega) (by omega)
  have hmk2 := run_make_row' (P := Trym.prog) 26 4 (.bool false) 1 Trym.underlying26 Trym.info4 rfl .i64 .i64 n (by omega) (by omega)
  go_enter Trym.func16, Trym.ntmps16
  go_wp2
  clear hmk hmk2
  go_loopw [4, 24] (fun r i wr => ∃ (k R : Nat) (seen : Nat → Int) (ring reach : Nat → Bool), k ≤ n ∧ i = .int .i64 k ∧ r = .int .i64 R ∧ Ring.Out f n k seen ring reach R ∧ Wd w.heap.size w wr n seen ring reach) (fun _ i _ => n - (intOf i).toNat)
  case atStart => exact ⟨0, 0, _, _, _, by omega, rfl, rfl, Ring.Out.start f n, wd_start w n⟩
  case round =>
    obtain ⟨k, R, seen, ring, reach, hk, rfl, rfl, HO, HW⟩ := hrel
    by_cases hlt : k < n
    · obtain ⟨rfl, hb⟩ := hx.out (by omega)
      go_wp2
      go_loopg [7, 8] n (fun g v i w2 => ∃ (m : Nat) (I : Int) (now : Nat → Int), m ≤ n ∧ g = n - m ∧ I < n ∧ i = .int .i64 I ∧ Hid (it f k m = I) ∧ Ring.Path f n k m seen now ∧ Wd w.heap.size w w2 n now ring reach ∧ PathIs w.heap.size w2 f k m v)
      case atStart => exact ⟨0, k, seen, by omega, by omega, by omega, rfl, rfl, Ring.Path.start f n k seen, HW, World.ownsRow_nil _ _ _ _⟩
      case round =>
        obtain ⟨m, I, now, hm, rfl, hI, rfl, HI, HP, HW2, HPI⟩ := hrel
        clear HW
        by_cases h0 : 0 ≤ I
        · obtain ⟨J, rfl⟩ := Int.eq_ofNat_of_zero_le h0
          have hJ : J < n := by omega
          have c1 : wr.cell? ⟨w.heap.size, J, none⟩ = some (.int .i64 (now J)) := HW2.rs.cell hJ
          have c2 : wr.frozen? ⟨w.heap.size, J, none⟩ = false := HW2.rs.frozen J
          by_cases hz : now J = 0
          · rw [hz] at c1
            have c3 : w.cell? ⟨b, off + J, none⟩ = some (.int .i64 (f J)) := hc.out J hJ
            have hsz := HW2.size
            have hBz : (wr.setCell ⟨w.heap.size, J, none⟩ (.int .i64 1)).heap.size = wr.heap.size := by simp [World.setCell]
            go_wp2_with (at_builtin; refine wpList_append_own _ rfl _ _ 22 rfl (w.heap.size + 3) 3 i0 (.int .i64 0) 1 8 Trym.underlying22 hi hz0 hz1 hz2 rfl (by decide) _ _ _ rfl ((HPI.setCell (by simp) _).alloc _) ⟨wr.heap.size, 0, none⟩ 1 1 [.int .i64 J] rfl rfl ?c1 ?c2 ?c3 ?c4 ?c5 ?_)
            case c1 => exact cell_new _ _ hBz _ _
            case c2 => intro u hu; simp at hu; subst hu; rfl
            case c3 => unfold maxLen; omega
            case c4 => omega
            case c5 => simp; omega
            · intro v' w1 hown' hgrow _
              have hJf := hf.out J hJ
              obtain ⟨HP', HW', HPI', hbc, HI'⟩ := path_step hf.out hlt HP HW2 HPI HI hz hb c3 hown' hgrow
              have hm' := HP'.le hf.out hlt
              clear hown' hgrow hBz hsz c1 c2 c3 HP HW2 HPI HI
              go_wp2
              go_roundg (n - (m + 1))
              case measure => omega
              case rel => exact ⟨m + 1, f J, _, hm', rfl, hJf, rfl, HI', HP', HW', HPI'⟩
          · obtain ⟨ao, cp, hv, hao⟩ := HPI.at
            have HAO : Hid (0 < m → ∃ g, ao = some ⟨g, 0, none⟩) := hao
            clear hao
            subst hv
            have hRn := HO.cnt.le
            by_cases h1 : now J = 1
            · obtain ⟨q, hq, hqe⟩ := path_at hf.out hlt HO HP (by rw [HI.out]; omega) (by rw [HI.out]; exact h1)
              have HQ : Hid (it f k q = it f k m) := hqe
              have HNJ : Hid (now J = 1) := h1
              rw [h1] at c1
              clear hqe h1 hz
              obtain ⟨g, rfl⟩ := HAO.out (by omega)
              clear HAO
              have hg3 : w.heap.size + 3 ≤ g := HPI.own g rfl
              go_wp2
              go_loopw [10] (fun i w3 => ∃ (K : Nat) (ring3 : Nat → Bool), q ≤ K ∧ K < m ∧ i = .int .i64 K ∧ Marked f n k m (K + 1) ring ring3 ∧ Wd w.heap.size w w3 n now ring3 reach ∧ PathIs w.heap.size w3 f k m (.slice (some ⟨g, 0, none⟩) m cp)) (fun i _ => (intOf i).toNat)
              case atStart =>
                refine ⟨m - 1, ring, by omega, by omega, by go_num, ?_, HW2, HPI⟩
                rw [show m - 1 + 1 = m by omega]
                exact Marked.start f n k m ring
              case round =>
                obtain ⟨K, ring3, hqK, hKm, rfl, HM3, HW3, HP3⟩ := hrel
                clear HW2 HPI c1 c2
                have d0 := HP3.cell hKm
                have e0 := HP.mem K hKm
                have e1 := Ring.Path.lt hf.out hlt K
                obtain ⟨J3, hJ3⟩ := Int.eq_ofNat_of_zero_le e0
                rw [hJ3] at d0 e1
                have HJ3 : Hid (it f k K = J3) := hJ3
                clear hJ3 e0
                have hJn : J3 < n := by omega
                have d1 : wr.cell? ⟨w.heap.size + 1, J3, none⟩ = some (.bool (ring3 J3)) := HW3.rr.cell hJn
                have d2 : wr.frozen? ⟨w.heap.size + 1, J3, none⟩ = false := HW3.rr.frozen J3
                obtain ⟨ring2, HM2, HW2, HPI⟩ : ∃ ring2, Marked f n k m K ring ring2 ∧ Wd w.heap.size w (wr.setCell ⟨w.heap.size + 1, J3, none⟩ (.bool true)) n now ring2 reach ∧ PathIs w.heap.size (wr.setCell ⟨w.heap.size + 1, J3, none⟩ (.bool true)) f k m (.slice (some ⟨g, 0, none⟩) m cp) := ⟨_, mark_step HM3 hKm HW3 HP3 HJ3.out⟩
                clear HM3 HW3 HP3
                by_cases hKq : K = q
                · have hJJ : J3 = J := by
                    have e2 := HJ3.out
                    rw [hKq, HQ.out, HI.out] at e2
                    omega
                  have HKQ : Hid (K = q) := hKq
                  clear hKq
                  subst hJJ
                  go_wp2
                  go_loopw [82] (fun i w4 => ∃ (t : Nat) (now4 : Nat → Int) (reach4 : Nat → Bool), t ≤ m ∧ i = .int .i64 t ∧ Turned f n k t now now4 reach reach4 true ∧ Wd w.heap.size w w4 n now4 ring2 reach4 ∧ PathIs w.heap.size w4 f k m (.slice (some ⟨g, 0, none⟩) m cp)) (fun i _ => m - (intOf i).toNat)
                  case atStart => exact ⟨0, now, reach, by omega, rfl, Turned.start f n k now reach true, HW2, HPI⟩
                  case round =>
                    obtain ⟨t, now4, reach4, ht, rfl, HT4, HW4, HP4⟩ := hrel
                    clear HW2 HPI
                    by_cases htm : t < m
                    · have d0 := HP4.cell htm
                      have e0 := HP.mem t htm
                      have e1 := Ring.Path.lt hf.out hlt t
                      obtain ⟨J4, hJ4⟩ := Int.eq_ofNat_of_zero_le e0
                      rw [hJ4] at d0 e1
                      have HJ4 : Hid (it f k t = J4) := hJ4
                      clear hJ4 e0
                      have hJn4 : J4 < n := by omega
                      have d1 : wr.cell? ⟨w.heap.size, J4, none⟩ = some (.int .i64 (now4 J4)) := HW4.rs.cell hJn4
                      have d2 : wr.frozen? ⟨w.heap.size, J4, none⟩ = false := HW4.rs.frozen J4
                      have d3 : wr.cell? ⟨w.heap.size + 2, J4, none⟩ = some (.bool (reach4 J4)) := HW4.rb.cell hJn4
                      have d4 : wr.frozen? ⟨w.heap.size + 2, J4, none⟩ = false := HW4.rb.frozen J4
                      have HS := hide_it (turn_step HT4 HW4 HP4 HJ4.out)
                      clear HW4
                      go_wp2
                      go_roundw
                      case rel => exact ⟨t + 1, _, _, by omega, by go_num, HS.out.1, HS.out.2.1, HS.out.2.2⟩
                      case measure => simp [intOf]; omega
                    · obtain rfl : t = m := by omega
                      go_wp2
                      go_roundw
                      case rel => exact ⟨k + 1, R + 1, _, _, _, by omega, by go_num, by go_num, Ring.join_ring hf.out hlt HO HP hq HQ.out (marks_of HP HT4 (HKQ.out ▸ HM2)), HW4⟩
                      case measure => simp [intOf]; omega
                · have hJJ : ((J3 : Int) == (J : Int)) = false := by
                    rw [beq_eq_false_iff_ne]
                    intro e
                    have e2 := HP.inj q K (by omega) hKm
                    rw [HQ.out, HI.out, HJ3.out] at e2
                    omega
                  go_wp2
                  go_roundw
                  case rel => exact ⟨K - 1, ring2, by omega, by omega, by go_num, by rw [show K - 1 + 1 = K by omega]; exact HM2, HW2, HPI⟩
                  case measure => simp [intOf]; omega
            · have hz' : (now J == 0) = false := beq_eq_false_iff_ne.2 hz
              have h1' : (now J == 1) = false := beq_eq_false_iff_ne.2 h1
              have HZ : Hid (now J ≠ 0) := hz
              have H1 : Hid (now J ≠ 1) := h1
              clear hz h1
              have c4 : wr.cell? ⟨w.heap.size + 2, J, none⟩ = some (.bool (reach J)) := HW2.rb.cell hJ
              go_wp2
              go_loopw [82] (fun i w4 => ∃ (t : Nat) (now4 : Nat → Int) (reach4 : Nat → Bool), t ≤ m ∧ i = .int .i64 t ∧ Turned f n k t now now4 reach reach4 (reach J) ∧ Wd w.heap.size w w4 n now4 ring reach4 ∧ PathIs w.heap.size w4 f k m (.slice ao m cp)) (fun i _ => m - (intOf i).toNat)
              case atStart => exact ⟨0, now, reach, by omega, rfl, Turned.start f n k now reach (reach J), HW2, HPI⟩
              case round =>
                obtain ⟨t, now4, reach4, ht, rfl, HT4, HW4, HP4⟩ := hrel
                clear HW2 HPI
                by_cases htm : t < m
                · obtain ⟨g, rfl⟩ := HAO.out (by omega)
                  have d0 := HP4.cell htm
                  have e0 := HP.mem t htm
                  have e1 := Ring.Path.lt hf.out hlt t
                  obtain ⟨J4, hJ4⟩ := Int.eq_ofNat_of_zero_le e0
                  rw [hJ4] at d0 e1
                  have HJ4 : Hid (it f k t = J4) := hJ4
                  clear hJ4 e0
                  have hJn4 : J4 < n := by omega
                  have d1 : wr.cell? ⟨w.heap.size, J4, none⟩ = some (.int .i64 (now4 J4)) := HW4.rs.cell hJn4
                  have d2 : wr.frozen? ⟨w.heap.size, J4, none⟩ = false := HW4.rs.frozen J4
                  have d3 : wr.cell? ⟨w.heap.size + 2, J4, none⟩ = some (.bool (reach4 J4)) := HW4.rb.cell hJn4
                  have d4 : wr.frozen? ⟨w.heap.size + 2, J4, none⟩ = false := HW4.rb.frozen J4
                  have HS := hide_it (turn_step HT4 HW4 HP4 HJ4.out)
                  clear HW4
                  go_wp2
                  go_roundw
                  case rel => exact ⟨t + 1, _, _, by omega, by go_num, HS.out.1, HS.out.2.1, HS.out.2.2⟩
                  case measure => simp [intOf]; omega
                · obtain rfl : t = m := by omega
                  go_wp2
                  go_roundw
                  case rel => exact ⟨k + 1, R, _, _, _, by omega, by go_num, rfl, Ring.join_done hf.out hlt HO HP (by rw [HI.out]; omega) (by rw [HI.out]; exact HZ.out) (by rw [HI.out]; exact H1.out) (by rw [HI.out]; exact marks_of HP HT4 (Marked.start f n k t ring)), HW4⟩
                  case measure => simp [intOf]; omega
        · have hd : decide (0 ≤ I) = false := decide_eq_false h0
          have hd2 : decide (I < 0) = true := decide_eq_true (by omega)
          obtain ⟨ao, cp, hv, hao⟩ := HPI.at
          have HAO : Hid (0 < m → ∃ g, ao = some ⟨g, 0, none⟩) := hao
          clear hao
          subst hv
          go_wp2
          go_loopw [82] (fun i w4 => ∃ (t : Nat) (now4 : Nat → Int) (reach4 : Nat → Bool), t ≤ m ∧ i = .int .i64 t ∧ Turned f n k t now now4 reach reach4 false ∧ Wd w.heap.size w w4 n now4 ring reach4 ∧ PathIs w.heap.size w4 f k m (.slice ao m cp)) (fun i _ => m - (intOf i).toNat)
          case atStart => exact ⟨0, now, reach, by omega, rfl, Turned.start f n k now reach false, HW2, HPI⟩
          case round =>
            obtain ⟨t, now4, reach4, ht, rfl, HT4, HW4, HP4⟩ := hrel
            clear HW2 HPI
            by_cases htm : t < m
            · obtain ⟨g, rfl⟩ := HAO.out (by omega)
              have d0 := HP4.cell htm
              have e0 := HP.mem t htm
              have e1 := Ring.Path.lt hf.out hlt t
              obtain ⟨J4, hJ4⟩ := Int.eq_ofNat_of_zero_le e0
              rw [hJ4] at d0 e1
              have HJ4 : Hid (it f k t = J4) := hJ4
              clear hJ4 e0
              have hJn4 : J4 < n := by omega
              have d1 : wr.cell? ⟨w.heap.size, J4, none⟩ = some (.int .i64 (now4 J4)) := HW4.rs.cell hJn4
              have d2 : wr.frozen? ⟨w.heap.size, J4, none⟩ = false := HW4.rs.frozen J4
              have d3 : wr.cell? ⟨w.heap.size + 2, J4, none⟩ = some (.bool (reach4 J4)) := HW4.rb.cell hJn4
              have d4 : wr.frozen? ⟨w.heap.size + 2, J4, none⟩ = false := HW4.rb.frozen J4
              have HS := hide_it (turn_step HT4 HW4 HP4 HJ4.out)
              clear HW4
              go_wp2
              go_roundw
              case rel => exact ⟨t + 1, _, _, by omega, by go_num, HS.out.1, HS.out.2.1, HS.out.2.2⟩
              case measure => simp [intOf]; omega
            · obtain rfl : t = m := by omega
              go_wp2
              go_roundw
              case rel => exact ⟨k + 1, R, _, _, _, by omega, by go_num, rfl, Ring.join_out hf.out hlt HO HP (by rw [HI.out]; omega) (marks_of HP HT4 (Marked.start f n k t ring)), HW4⟩
              case measure => simp [intOf]; omega
    · obtain rfl : k = n := by omega
      go_wp2
      go_ret3
      exact ⟨_, _, _, rfl, Fol.of HO HW⟩

theorem zzfollow_any (ao0 : Option Addr) (b off n c : Nat) (f : Nat → Int) (w : World) (hn : n ≤ 4096) (hx : Hid (0 < n → ao0 = some ⟨b, off, none⟩ ∧ b < w.heap.size)) (hf : Hid (∀ j, j < n → f j < n)) (hc : Hid (∀ j, j < n → w.cell? ⟨b, off + j, none⟩ = some (.int .i64 (f j)))) :
    Calls Trym.prog 11 #[.slice ao0 n c] w fun e w' => ∃ (ring reach : Nat → Bool) (R : Nat), e = .returned (.tuple #[.slice (some ⟨w.heap.size + 1, 0, none⟩) n n, .slice (some ⟨w.heap.size + 2, 0, none⟩) n n, .int .i64 R]) ∧ Fol w.heap.size w w' n f ring reach R := by
  go_enter Trym.func11, Trym.ntmps11
  go_wp2_with (go_at_call 16; refine (follow_any ao0 b off n c f _ hn hx hf hc).mono ?_; rintro e w' ⟨ring, reach, R, rfl, HF⟩)
  go_ret3
  exact ⟨_, _, _, rfl, HF⟩
end Go.Proofs.Qxb6605466aMods
