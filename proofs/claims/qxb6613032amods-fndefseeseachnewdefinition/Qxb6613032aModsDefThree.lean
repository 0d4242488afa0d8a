/-
  THE WALK OF FnDefSeesEachNewDefinition, v3 true.
-/
import Derived.Test.Qxb6613032aModsDefParts
import Derived.Deep.RegionHeld3
namespace Go.Proofs.Qxb6613032aMods.DefThree
open Go.ChangeShapes Go.WideShapes Go.ChangeAt Go.RowKit Go.Maps Go.WideMaps Go.WideElems
open Go.Proofs.Qxb6613032aMods.Def

/-- What a reference puts ahead of a name. -/
def pre : ByteArray := ⟨#[35, 47, 99, 111, 109, 112, 111, 110, 101, 110, 116, 115, 47, 115, 99, 104, 101, 109, 97, 115, 47]⟩

theorem pre_size (s : ByteArray) : (pre ++ s).size = 21 + s.size := by
  rw [ByteArray.size_append]; rfl

theorem zzprefix (m : Nat) (w : World) (h : w.cell? ⟨m, 0, none⟩ = some (.bool true)) :
    Calls Trym.prog 11 #[.pointer (some ⟨m, 0, none⟩)] w fun e w' => e = .returned (.string pre) ∧ w' = w := by
  go_enter Trym.func11, Trym.ntmps11
  go_wp2_with (go_at_call 17; refine (prefix_three m _ h).mono ?_; rintro e w' ⟨rfl, rfl⟩)
  go_ret
  exact ⟨rfl, rfl⟩

theorem find (m B n r p : Nat) (D : DataW Unit) (name : ByteArray) (w wr : World) (hst : St w wr m B true n D) (hr : wr.cell? ⟨r, 0, none⟩ = some (.string (pre ++ name))) (hs : name.size ≤ 1048576) (hat : D.atKey (keyLit name) .nil = .lit (.int .i64 p)) :
    Calls Trym.prog 15 #[.pointer (some ⟨m, 0, none⟩), .pointer (some ⟨r, 0, none⟩)] wr fun e w' => e = .returned (.pointer (some ⟨p, 0, none⟩)) ∧ ∃ q, w' = wr.drewN q :=
  zzdef_any m B n r p D pre name wr hst.c1 hr hst.own (by unfold maxLen; omega) (by rw [pre_size]; omega) hat (fun q => prefix_three m (wr.drewN q) hst.c0)

set_option maxHeartbeats 1600000 in
set_option maxRecDepth 100000 in
theorem walk (ao : Option Addr) (n c b off : Nat) (S : Nat → ByteArray) (w : World) (hS : IsStrs w ao n b off S) :
    Calls Trym.prog 4 #[.bool true, .slice ao n c] w fun e w' => e = .returned (.bool true) ∧ Below w.heap.size w w' := by
  have hn := hS.len
  go_enter Trym.func4, Trym.ntmps4
  go_wp2_with fail
  refine (bytes_any true ao n c b off S w hS).mono ?_
  rintro e w0 ⟨⟨r, rfl, hr⟩, rfl⟩
  have HR : Hid (r = true → Short S n) := hr
  clear hr
  cases r
  · go_wp2
    go_ret
    exact ⟨rfl, Below.refl _ _⟩
  · have HS : Hid (Short S n) := HR.out rfl
    clear HR
    by_cases h2 : n ≤ 4096
    · have hd2 : decide ((4096 : Int) < (n : Int)) = false := decide_eq_false (by omega)
      go_wp2
      go_loop [5, 6] (fun x i => ∃ k z : Nat, k ≤ n ∧ z ≤ 1048576 ∧ i = .int .i64 k ∧ x = .int .i64 z) (fun _ i => n - (intOf i).toNat)
      case atStart => exact ⟨0, 0, by omega, by omega, rfl, rfl⟩
      case round =>
        obtain ⟨k, z, hk, hz, rfl, rfl⟩ := hrel
        by_cases hlt : k < n
        · obtain rfl := hS.addr (by omega)
          have h0 := hS.cell k hlt
          have h5 := HS.out k hlt
          go_wp2
          · go_ret
            exact ⟨rfl, Below.refl _ _⟩
          · have h6 : (z : Int) + (16 + ((S k).size : Int)) ≤ 1048576 := by assumption
            go_round
            case rel => exact ⟨k + 1, z + (16 + (S k).size), by omega, by omega, by go_num, by go_num⟩
            case measure => simp [intOf]; omega
        · obtain rfl : k = n := by omega
          have hd3 : decide ((k : Int) < (k : Int)) = false := decide_eq_false (by omega)
          go_wp2_with fail
          refine (models_any true _).mono ?_
          rintro e w1 ⟨rfl, hw1⟩
          obtain ⟨m, B, hm, HST⟩ : ∃ m B, m = w0.heap.size + 1 ∧ St w0 w1 m B true 0 (.map []) := ⟨_, w0.heap.size, rfl, by rw [hw1]; exact st_start w0 _⟩
          rw [← hm]
          clear hw1 hm
          have m0 := HST.c0
          go_wp2_with fail
          refine (zzprefix m w1 m0).mono ?_
          rintro e w2 ⟨rfl, rfl⟩
          have hpp : (pre.toList == [35, 47, 99, 111, 109, 112, 111, 110, 101, 110, 116, 115, 47, 115, 99, 104, 101, 109, 97, 115, 47]) = true := by decide +kernel
          go_wp2_with fail
          clear hpp m0
          have hpz : pre.size ≤ 21 := by decide
          go_loopw [10, 11] (fun x i wr => ∃ (K : Nat) (D : DataW Unit) (l : Int), K ≤ k ∧ i = .int .i64 K ∧ x = .int .i64 l ∧ St w0 wr m B true K D ∧ (0 < K → ∃ l' p : Nat, l = l' ∧ l' < K ∧ First wr (S 0) D l' p)) (fun _ i _ => k - (intOf i).toNat)
          case atStart => exact ⟨0, _, -1, by omega, rfl, rfl, HST, fun h => by omega⟩
          case round =>
            obtain ⟨K, D, l, hK, rfl, rfl, HS1, HF⟩ := hrel
            have HFF : Hid (0 < K → ∃ l' p : Nat, l = l' ∧ l' < K ∧ First wr (S 0) D l' p) := HF
            clear HF HST
            by_cases hlt2 : K < k
            · obtain rfl := hS.addr (by omega)
              have hb0 : b < w0.heap.size := World.block_lt_of_cell? _ _ (hS.cell K hlt2)
              have n1 := hS.cell K hlt2
              have n0 := hS.cell 0 (by omega)
              have HN0 : Hid (w0.cell? ⟨b, off, none⟩ = some (.string (S 0))) := n0
              have z1 := HS.out K hlt2
              have z0 := HS.out 0 (by omega)
              have hz1 := HS1.bel.size
              go_wp2_with fail
              refine (itoa_any K wr (by omega)).mono ?_
              rintro e w3 ⟨rfl, HB3⟩
              go_wp2_with fail
              refine (schema_any _ _ _).mono ?_
              rintro e w4 ⟨rfl, hw4⟩
              obtain ⟨s, hs⟩ : ∃ s, s = w3.heap.size := ⟨_, rfl⟩
              rw [← hs]
              have HS4 : St w0 w4 m B true K D := by rw [hw4]; exact (HS1.later HB3).alloc _
              have hd4 : w4.cell? ⟨s, 2, none⟩ = some (.string (itoaS K)) := by rw [hw4, hs]; exact schema_desc _ _ _
              have HF4 : Hid (0 < K → ∃ l' p : Nat, l = l' ∧ l' < K ∧ First w4 (S 0) D l' p) := fun h => by
                obtain ⟨l', p, h1, h2, h3⟩ := HFF.out h
                exact ⟨l', p, h1, h2, by rw [hw4]; exact (h3.later HB3).later ((Below.refl _ _).alloc (Nat.le_refl _) _)⟩
              clear HFF hs hw4 HB3 HS1 hz1
              have c1 := HS4.c1
              have n1w : w4.cell? ⟨b, off + K, none⟩ = some (.string (S K)) := (HS4.bel.cell (p := ⟨b, off + K, none⟩) hb0).trans n1
              go_wp2_with fail
              refine (set_any m B K D (S K) s w4 HS4.c1 HS4.own (by unfold maxLen; omega) (by unfold maxLen; omega)).mono ?_
              rintro e w5 ⟨rfl, ho5, hg5⟩
              have hat : (D.put (keyLit (S K)) (.lit (.int .i64 s))).atKey (keyLit (S K)) .nil = .lit (.int .i64 s) := at_same HS4.own
              have HAT := (show Hid _ from hat)
              clear hat c1 n1w
              by_cases heq : S K = S 0
              · have hte : ((S K).toList == (S 0).toList) = true := by rw [heq]; simp
                have F5 : First w5 (S 0) (D.put (keyLit (S K)) (.lit (.int .i64 s))) K s := by rw [heq]; exact First.hit hd4 HS4.own hg5
                have HEQ : Hid (S K = S 0) := heq
                clear heq HF4
                have HS5 := HS4.set ho5 hg5
                have n1' : w5.cell? ⟨b, off + K, none⟩ = some (.string (S K)) := (HS5.bel.cell (p := ⟨b, off + K, none⟩) hb0).trans n1
                have n0' : w5.cell? ⟨b, off, none⟩ = some (.string (S 0)) := (HS5.bel.cell (p := ⟨b, off, none⟩) hb0).trans n0
                have hk0 : (0 : Int) < (k : Int) := by omega
                have hK1 : (K : Int) < (k : Int) := by omega
                clear HS4 hd4 hg5 n1 n0 ho5
                generalize D.put (keyLit (S K)) (.lit (.int .i64 s)) = D2 at HAT F5 HS5
                go_wp2_with fail
                go_quiet (fail)
                go_wp2_with fail
                refine (schema_any _ _ _).mono ?_
                rintro e w6 ⟨rfl, hw6⟩
                have HS6 : St w0 w6 m B true (K + 1) D2 := by rw [hw6]; exact (HS5.drewN nq).alloc _
                have F6 : First w6 (S 0) D2 K s := by rw [hw6]; exact First.later (wr := w5.drewN nq) ⟨F5.at0, F5.desc⟩ ((Below.refl _ _).alloc (Nat.le_refl _) _)
                have hr6 : w6.cell? ⟨w5.heap.size, 0, none⟩ = some (.string (pre ++ S K)) := by rw [hw6]; exact schema_ref _ _ _
                clear HS5 F5 hw6 n1' n0'
                go_wp2_with fail
                refine (find m B (K + 1) w5.heap.size s D2 (S K) w0 w6 HS6 hr6 z1 HAT.out).mono ?_
                rintro e w7 ⟨rfl, q7, hw7⟩
                have HS7 : St w0 w7 m B true (K + 1) D2 := by rw [hw7]; exact HS6.drewN q7
                have F7 : First w7 (S 0) D2 K s := by rw [hw7]; exact ⟨F6.at0, F6.desc⟩
                clear hw7 HS6 F6 hr6 HAT
                have hns := neq_same ⟨s, 0, none⟩ w7
                have n07 : w7.cell? ⟨b, off, none⟩ = some (.string (S 0)) := (HS7.bel.cell (p := ⟨b, off, none⟩) hb0).trans HN0.out
                go_wp2_with fail
                refine (schema_any _ _ _).mono ?_
                rintro e w8 ⟨rfl, hw8⟩
                have HS8 : St w0 w8 m B true (K + 1) D2 := by rw [hw8]; exact HS7.alloc _
                have F8 : First w8 (S 0) D2 K s := by rw [hw8]; exact F7.later ((Below.refl _ _).alloc (Nat.le_refl _) _)
                have hr8 : w8.cell? ⟨w7.heap.size, 0, none⟩ = some (.string (pre ++ S 0)) := by rw [hw8]; exact schema_ref _ _ _
                clear hw8 HS7 F7 n07 hns
                go_wp2_with fail
                refine (find m B (K + 1) w7.heap.size s D2 (S 0) w0 w8 HS8 hr8 z0 F8.at0).mono ?_
                rintro e w9 ⟨rfl, q9, hw9⟩
                have HS9 : St w0 w9 m B true (K + 1) D2 := by rw [hw9]; exact HS8.drewN q9
                have F9 : First w9 (S 0) D2 K s := by rw [hw9]; exact ⟨F8.at0, F8.desc⟩
                clear hw9 HS8 F8 hr8
                have hds := F9.desc
                have hpl : s < w9.heap.size := World.block_lt_of_cell? _ _ hds
                have hbd : K < 4096 := by omega
                go_wp2_with fail
                go_region_held3 (fun w' => w'.cell? ⟨s, 2, none⟩ = some (.string (itoaS K))) (first | exact hc10 | exact hds) ((go_at_call 13; refine (itoa_any K _ hbd).mono ?_; rintro e w10 ⟨rfl, HB10⟩; have hc10 := (HB10.cell (p := ⟨s, 2, none⟩) (by exact hpl)).trans (by exact hds)))
                have HB10' : Below w9.heap.size w9 w10 := Below.trans ((Below.refl _ w9).drew) HB10
                have HS10 := HS9.later HB10'
                have F10 := F9.later HB10'
                clear HB10 HB10' HS9 F9 hds hpl hc10
                go_wp2
                go_roundw
                case rel => exact ⟨K + 1, D2, K, by omega, by go_num, rfl, HS10, fun _ => ⟨K, s, rfl, by omega, F10⟩⟩
                case measure => simp [intOf]; omega
              · have hte : ((S K).toList == (S 0).toList) = false := by
                  rw [beq_eq_false_iff_ne]
                  intro h
                  rw [ByteArray.toList_eq, ByteArray.toList_eq] at h
                  exact heq (bytes_inj h)
                have hKp : 0 < K := by
                  cases K with
                  | zero => exact absurd rfl heq
                  | succ K => omega
                obtain ⟨l', p, rfl, hlK, F4⟩ := HF4.out hKp
                have F5 : First w5 (S 0) (D.put (keyLit (S K)) (.lit (.int .i64 s))) l' p := F4.miss (fun e => heq e.symm) HS4.own hg5
                clear heq HF4 F4
                have HS5 := HS4.set ho5 hg5
                have n1' : w5.cell? ⟨b, off + K, none⟩ = some (.string (S K)) := (HS5.bel.cell (p := ⟨b, off + K, none⟩) hb0).trans n1
                have n0' : w5.cell? ⟨b, off, none⟩ = some (.string (S 0)) := (HS5.bel.cell (p := ⟨b, off, none⟩) hb0).trans n0
                have hk0 : (0 : Int) < (k : Int) := by omega
                have hK1 : (K : Int) < (k : Int) := by omega
                clear HS4 hd4 hg5 n1 n0 ho5
                generalize D.put (keyLit (S K)) (.lit (.int .i64 s)) = D2 at HAT F5 HS5
                go_wp2_with fail
                go_quiet (fail)
                go_wp2_with fail
                refine (schema_any _ _ _).mono ?_
                rintro e w6 ⟨rfl, hw6⟩
                have HS6 : St w0 w6 m B true (K + 1) D2 := by rw [hw6]; exact (HS5.drewN nq).alloc _
                have F6 : First w6 (S 0) D2 l' p := by rw [hw6]; exact First.later (wr := w5.drewN nq) ⟨F5.at0, F5.desc⟩ ((Below.refl _ _).alloc (Nat.le_refl _) _)
                have hr6 : w6.cell? ⟨w5.heap.size, 0, none⟩ = some (.string (pre ++ S K)) := by rw [hw6]; exact schema_ref _ _ _
                clear HS5 F5 hw6 n1' n0'
                go_wp2_with fail
                refine (find m B (K + 1) w5.heap.size s D2 (S K) w0 w6 HS6 hr6 z1 HAT.out).mono ?_
                rintro e w7 ⟨rfl, q7, hw7⟩
                have HS7 : St w0 w7 m B true (K + 1) D2 := by rw [hw7]; exact HS6.drewN q7
                have F7 : First w7 (S 0) D2 l' p := by rw [hw7]; exact ⟨F6.at0, F6.desc⟩
                clear hw7 HS6 F6 hr6 HAT
                have hns := neq_same ⟨s, 0, none⟩ w7
                have n07 : w7.cell? ⟨b, off, none⟩ = some (.string (S 0)) := (HS7.bel.cell (p := ⟨b, off, none⟩) hb0).trans HN0.out
                go_wp2_with fail
                refine (schema_any _ _ _).mono ?_
                rintro e w8 ⟨rfl, hw8⟩
                have HS8 : St w0 w8 m B true (K + 1) D2 := by rw [hw8]; exact HS7.alloc _
                have F8 : First w8 (S 0) D2 l' p := by rw [hw8]; exact F7.later ((Below.refl _ _).alloc (Nat.le_refl _) _)
                have hr8 : w8.cell? ⟨w7.heap.size, 0, none⟩ = some (.string (pre ++ S 0)) := by rw [hw8]; exact schema_ref _ _ _
                clear hw8 HS7 F7 n07 hns
                go_wp2_with fail
                refine (find m B (K + 1) w7.heap.size p D2 (S 0) w0 w8 HS8 hr8 z0 F8.at0).mono ?_
                rintro e w9 ⟨rfl, q9, hw9⟩
                have HS9 : St w0 w9 m B true (K + 1) D2 := by rw [hw9]; exact HS8.drewN q9
                have F9 : First w9 (S 0) D2 l' p := by rw [hw9]; exact ⟨F8.at0, F8.desc⟩
                clear hw9 HS8 F8 hr8
                have hds := F9.desc
                have hpl : p < w9.heap.size := World.block_lt_of_cell? _ _ hds
                have hbd : l' < 4096 := by omega
                go_wp2_with fail
                go_region_held3 (fun w' => w'.cell? ⟨p, 2, none⟩ = some (.string (itoaS l'))) (first | exact hc10 | exact hds) ((go_at_call 13; refine (itoa_any l' _ hbd).mono ?_; rintro e w10 ⟨rfl, HB10⟩; have hc10 := (HB10.cell (p := ⟨p, 2, none⟩) (by exact hpl)).trans (by exact hds)))
                have HB10' : Below w9.heap.size w9 w10 := Below.trans ((Below.refl _ w9).drew) HB10
                have HS10 := HS9.later HB10'
                have F10 := F9.later HB10'
                clear HB10 HB10' HS9 F9 hds hpl hc10
                go_wp2
                go_roundw
                case rel => exact ⟨K + 1, D2, l', by omega, by go_num, rfl, HS10, fun _ => ⟨l', p, rfl, by omega, F10⟩⟩
                case measure => simp [intOf]; omega
            · go_wp2
              go_ret
              exact ⟨rfl, HS1.bel⟩
    · have hd2 : decide ((4096 : Int) < (n : Int)) = true := decide_eq_true (by omega)
      go_wp2
      go_ret
      exact ⟨rfl, Below.refl _ _⟩
end Go.Proofs.Qxb6613032aMods.DefThree
