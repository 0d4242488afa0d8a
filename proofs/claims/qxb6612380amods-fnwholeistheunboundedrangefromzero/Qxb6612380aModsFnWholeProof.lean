/-
  THE PROOF OF 'Rows.FnWholeIsTheUnboundedRangeFromZeroSaid'.
-/
import Derived.Test.Qxb6612380aModsRows
import Derived.WalkKit
import Derived.ProofKit
import Derived.OpenShut
import Derived.ShutString
import Derived.ChangeOld
import Derived.Below
import Derived.SliceStrings
import Derived.WalkSpells
import Derived.WalkLawsBesides
namespace Go.Proofs.Qxb6612380aMods.fnWhole
open Go.ChangeShapes Go.WideShapes Go.ChangeAt Go.RowKit
open Go.ChangeMaps (open_string shut_string)
set_option linter.unusedVariables false

theorem own : ownKnob Trym.prog.godebug = none := by kernel_rfl
theorem laidOut : laidOutB Trym.prog = true := by kernel_rfl

/-- WHAT THE WALK IS TOLD OF THE SLICE OF STRINGS: n elements, the strings S j. -/
structure IsStrs (w : World) (ao : Option Addr) (n : Nat) (b off : Nat) (S : Nat → ByteArray) : Prop where
  len : n ≤ 9223372036854775807
  addr : 0 < n → ao = some ⟨b, off, none⟩
  cell : ∀ j, j < n → w.cell? ⟨b, off + j, none⟩ = some (.string (S j))
  size : ∀ j, j < n → (S j).size ≤ 9223372036854775807

/-- The call answers some bool. -/
def Some (e : Ending) : Prop := ∃ r : Bool, e = .returned (.bool r)

set_option maxHeartbeats 400000 in
theorem bytes_any (p : ByteArray) (o l : Int) (g : Bool) (ao : Option Addr) (n c b off : Nat) (S : Nat → ByteArray) (w : World) (hp : p.size ≤ 9223372036854775807) (hS : IsStrs w ao n b off S) :
    Calls Trym.prog 8 #[.string p, .int .i64 o, .int .i64 l, .bool g, .slice ao n c] w fun e w' => Some e ∧ w' = w := by
  have hn := hS.len
  by_cases h1 : p.size ≤ 1048576
  · by_cases h2 : n ≤ 1048576
    · by_cases h3 : p.size + n ≤ 1048576
      · have hd1 : decide ((1048576 : Int) < (p.size : Int)) = false := decide_eq_false (by omega)
        have hd2 : decide ((1048576 : Int) < (n : Int)) = false := decide_eq_false (by omega)
        have hd3 : decide ((1048576 : Int) < (p.size : Int) + (n : Int)) = false := decide_eq_false (by omega)
        go_enter Trym.func8, Trym.ntmps8
        go_wp2
        go_loop [11, 12] (fun x i => ∃ k z : Nat, k ≤ n ∧ z ≤ 1048576 ∧ i = .int .i64 k ∧ x = .int .i64 z) (fun _ i => n - (intOf i).toNat)
        case atStart => exact ⟨0, p.size + n, by omega, by omega, rfl, by go_num⟩
        case round =>
          obtain ⟨k, z, hk, hz, rfl, rfl⟩ := hrel
          by_cases hlt : k < n
          · obtain rfl := hS.addr (by omega)
            have h0 := hS.cell k hlt
            have h4 := hS.size k hlt
            go_wp2
            · go_ret
              exact ⟨⟨_, rfl⟩, rfl⟩
            · go_ret
              exact ⟨⟨_, rfl⟩, rfl⟩
            · have h5 : (z : Int) + ((S k).size : Int) ≤ 1048576 := by assumption
              go_round
              case rel => exact ⟨k + 1, z + (S k).size, by omega, by omega, by go_num, by go_num⟩
              case measure => simp [intOf]; omega
          · go_wp2
            go_ret
            exact ⟨⟨_, rfl⟩, rfl⟩
      · go_enter Trym.func8, Trym.ntmps8
        go_wp2
        go_ret
        exact ⟨⟨_, rfl⟩, rfl⟩
    · go_enter Trym.func8, Trym.ntmps8
      go_wp2
      go_ret
      exact ⟨⟨_, rfl⟩, rfl⟩
  · go_enter Trym.func8, Trym.ntmps8
    go_wp2
    go_ret
    exact ⟨⟨_, rfl⟩, rfl⟩

/-- What rangeCovers answers. -/
def cov (o l x : Int) : Bool := if x < o then false else if l = 0 then true else decide (x - o < l)

theorem covers_any (o l x : Int) (w : World) (ho : 0 ≤ o) (hx : 0 ≤ x) (ho2 : o ≤ 9223372036854775807) (hx2 : x ≤ 9223372036854775807) :
    Calls Trym.prog 9 #[.int .i64 o, .int .i64 l, .int .i64 x] w fun e w' => e = .returned (.bool (cov o l x)) ∧ w' = w := by
  unfold cov
  by_cases h1 : x < o
  · rw [if_pos h1]
    go_enter Trym.func9, Trym.ntmps9
    go_wp2
    go_ret
    exact ⟨rfl, rfl⟩
  · rw [if_neg h1]
    by_cases h2 : l = 0
    · rw [if_pos h2]
      subst h2
      go_enter Trym.func9, Trym.ntmps9
      go_wp2
      go_ret
      exact ⟨rfl, rfl⟩
    · rw [if_neg h2]
      have h3 : (l == 0) = false := beq_eq_false_iff_ne.2 h2
      go_enter Trym.func9, Trym.ntmps9
      go_wp2
      go_ret
      exact ⟨rfl, rfl⟩

theorem whole_any (p : ByteArray) (o l : Int) (g : Bool) (v : Value) (w : World) :
    Calls Trym.prog 10 #[.agg #[.string p, .int .i64 o, .int .i64 l, .bool g, v]] w fun e w' => e = .returned (.bool (o == 0 && l == 0)) ∧ Below w.heap.size w w' := by
  by_cases h : o = 0
  · subst h
    go_enter Trym.func10, Trym.ntmps10
    go_wp2
    go_ret
    exact ⟨by simp, (Below.refl _ _).alloc (Nat.le_refl _) _⟩
  · have h1 : (o == 0) = false := beq_eq_false_iff_ne.2 h
    go_enter Trym.func10, Trym.ntmps10
    go_wp2
    go_ret
    exact ⟨by simp [h], (Below.refl _ _).alloc (Nat.le_refl _) _⟩

theorem law (o l : Int) (ho : 0 ≤ o) (hl : 0 ≤ l) (hl2 : l ≤ 9223372036854775807) : ((o == 0) && (l == 0)) = (cov o l 0 && cov o l 9223372036854775807) := by
  by_cases h1 : o = 0
  · subst h1
    by_cases h2 : l = 0
    · subst h2; decide
    · have e1 : cov 0 l 9223372036854775807 = false := by
        unfold cov
        rw [if_neg (by omega), if_neg h2]
        exact decide_eq_false (by omega)
      rw [e1, beq_eq_false_iff_ne.2 h2, Bool.and_false, Bool.and_false]
  · have e1 : cov o l 0 = false := by
      unfold cov
      rw [if_pos (by omega)]
    rw [e1, beq_eq_false_iff_ne.2 h1, Bool.false_and, Bool.false_and]

theorem cov_far (o l : Int) (h : 0 < o) : cov o l 0 = false := by unfold cov; rw [if_pos h]

set_option maxHeartbeats 800000 in
theorem walk (p : ByteArray) (o l : Int) (g : Bool) (ao : Option Addr) (n c b off : Nat) (S : Nat → ByteArray) (w : World) (hp : p.size ≤ 9223372036854775807) (ho2 : o ≤ 9223372036854775807) (hl2 : l ≤ 9223372036854775807) (hS : IsStrs w ao n b off S) :
    Calls Trym.prog 3 #[.string p, .int .i64 o, .int .i64 l, .bool g, .slice ao n c] w fun e w' => e = .returned (.bool true) ∧ Below w.heap.size w w' := by
  have hn := hS.len
  go_enter Trym.func3, Trym.ntmps3
  go_wp2_with fail
  refine (bytes_any p o l g ao n c b off S w hp hS).mono ?_
  rintro e w' ⟨⟨r, rfl⟩, rfl⟩
  cases r
  · go_wp2
    go_ret
    exact ⟨rfl, Below.refl _ _⟩
  · by_cases h1 : p.size ≤ 1048576
    · by_cases h2 : n ≤ 65536
      · have hd1 : decide ((1048576 : Int) < (p.size : Int)) = false := decide_eq_false (by omega)
        have hd2 : decide ((65536 : Int) < (n : Int)) = false := decide_eq_false (by omega)
        go_wp2
        go_loop [11, 12] (fun x i => ∃ k z : Nat, k ≤ n ∧ z ≤ 2097152 ∧ i = .int .i64 k ∧ x = .int .i64 z) (fun _ i => n - (intOf i).toNat)
        case atStart => exact ⟨0, p.size + 16 * n, by omega, by omega, rfl, by go_num⟩
        case round =>
          obtain ⟨k, z, hk, hz, rfl, rfl⟩ := hrel
          by_cases hlt : k < n
          · obtain rfl := hS.addr (by omega)
            have h0 := hS.cell k hlt
            have h4 := hS.size k hlt
            go_wp2
            · go_ret
              exact ⟨rfl, Below.refl _ _⟩
            · go_ret
              exact ⟨rfl, Below.refl _ _⟩
            · have h5 : (z : Int) + ((S k).size : Int) ≤ 1048576 := by assumption
              go_round
              case rel => exact ⟨k + 1, z + (S k).size, by omega, by omega, by go_num, by go_num⟩
              case measure => simp [intOf]; omega
          · by_cases hz1 : z ≤ 1048576
            · have hd3 : decide ((1048576 : Int) < (z : Int)) = false := decide_eq_false (by omega)
              by_cases ho : 0 ≤ o
              · have hd4 : decide (o < 0) = false := decide_eq_false (by omega)
                by_cases hl : 0 ≤ l
                · have hd5 : decide (l < 0) = false := decide_eq_false (by omega)
                  have HL : Hid (((o == 0) && (l == 0)) = (cov o l 0 && cov o l 9223372036854775807)) := law o l ho hl hl2
                  go_wp2_with fail
                  refine (covers_any o l 0 _ ho (by omega) ho2 (by omega)).mono ?_
                  rintro e w1 ⟨rfl, rfl⟩
                  generalize cov o l 0 = r0 at HL
                  cases r0
                  · go_wp2_with fail
                    refine (whole_any p o l g _ _).mono ?_
                    rintro e w2 ⟨rfl, HB⟩
                    rw [HL.out]
                    go_wp2
                    go_ret
                    exact ⟨by simp, ((Below.refl _ _).alloc (Nat.le_refl _) _).trans (HB.mono (by simp))⟩
                  · go_wp2_with fail
                    refine (covers_any o l 9223372036854775807 _ ho (by omega) ho2 (by omega)).mono ?_
                    rintro e w2 ⟨rfl, rfl⟩
                    generalize cov o l 9223372036854775807 = r1 at HL
                    go_wp2_with fail
                    refine (whole_any p o l g _ _).mono ?_
                    rintro e w3 ⟨rfl, HB⟩
                    rw [HL.out]
                    go_wp2
                    go_ret
                    exact ⟨by simp, ((Below.refl _ _).alloc (Nat.le_refl _) _).trans (HB.mono (by simp))⟩
                · have hd5 : decide (l < 0) = true := decide_eq_true (by omega)
                  go_wp2
                  go_ret
                  exact ⟨rfl, Below.refl _ _⟩
              · have hd4 : decide (o < 0) = true := decide_eq_true (by omega)
                go_wp2
                go_ret
                exact ⟨rfl, Below.refl _ _⟩
            · have hd3 : decide ((1048576 : Int) < (z : Int)) = true := decide_eq_true (by omega)
              go_wp2
              go_ret
              exact ⟨rfl, Below.refl _ _⟩
      · have hd1 : decide ((1048576 : Int) < (p.size : Int)) = false := decide_eq_false (by omega)
        have hd2 : decide ((65536 : Int) < (n : Int)) = true := decide_eq_true (by omega)
        go_wp2
        go_ret
        exact ⟨rfl, Below.refl _ _⟩
    · have hd1 : decide ((1048576 : Int) < (p.size : Int)) = true := decide_eq_true (by omega)
      go_wp2
      go_ret
      exact ⟨rfl, Below.refl _ _⟩

theorem bounds64 {n : Int} (h : (Lit.int .i64 n).wf = true) : n ≤ 9223372036854775807 := (bounds_i64 h).2

set_option maxRecDepth 100000 in
theorem lifted (os : Os) (started : os.Started) (H : Type) (enc : TypeId × Value → H) :
    ReturnsInHanded {} Trym.checked os 3 .any (Rows.fnWholeIsTheUnboundedRangeFromZeroSpec.pre6 enc Trym.prog Trym.f3 Rows.fnWholeIsTheUnboundedRangeFromZeroRow.domain false) (Rows.fnWholeIsTheUnboundedRangeFromZeroSpec.post enc Trym.prog Trym.f3 false true false false) := by
  refine returnsInHanded_of_change (C := Trym.checked) own started (by kernel_rfl) Trym.func3
    (ChangeSpec.witness6 (enc := enc) (C := Trym.checked) false ⟨#[], #[.string ByteArray.empty, .int .i64 0, .int .i64 0, .bool false, .slice none 0 0], []⟩ 8 (by kernel_rfl) (by kernel_rfl) (by kernel_rfl) (by kernel_rfl)) ?_
  intro W base args ds gs before hval0 hW hcnd _
  have hval : ∀ (j : Nat) t v, Trym.f3.params[j]? = some t → args[j]? = some v → Value.okWide Trym.prog W .any base t v := hval0
  have hW' := hW
  obtain ⟨p, q, hA0, hV, rfl, hfz, hnd⟩ := hW
  have hA : DataW.TrodAll enc Trym.prog W 0 (fun _ => true) true Trym.f3.params.toList args.toList ds p := hA0
  rw [Trym.params3] at hA hval
  obtain ⟨v0, vs0, d0, ds0, p0, q0, hargs, rfl, rfl, h0, r0⟩ := trodAll_cons hA
  obtain ⟨v1, vs1, d1, ds1, p1, q1, rfl, rfl, rfl, h1, r1⟩ := trodAll_cons r0
  obtain ⟨v2, vs2, d2, ds2, p2, q2, rfl, rfl, rfl, h2, r2⟩ := trodAll_cons r1
  obtain ⟨v3, vs3, d3, ds3, p3, q3, rfl, rfl, rfl, h3, r3⟩ := trodAll_cons r2
  obtain ⟨v4, vs4, d4, ds4, p4, q4, rfl, rfl, rfl, h4, r4⟩ := trodAll_cons r3
  obtain ⟨rfl, rfl, rfl⟩ := trodAll_nil r4
  obtain rfl : args = #[v0, v1, v2, v3, v4] := by cases args; simp_all
  obtain ⟨rfl, rfl⟩ := trodVars_none hV
  obtain ⟨a0, rfl, rfl, rfl, w0⟩ := open_string Trym.underlying9 (hval 0 9 v0 rfl rfl) h0
  obtain ⟨a1, rfl, rfl, rfl, w1⟩ := open_int Trym.underlying2 (hval 1 2 v1 rfl rfl) h1
  obtain ⟨a2, rfl, rfl, rfl, w2⟩ := open_int Trym.underlying2 (hval 2 2 v2 rfl rfl) h2
  obtain ⟨a3, rfl, rfl, rfl⟩ := open_bool Trym.underlying4 (hval 3 4 v3 rfl rfl) h3
  obtain ⟨a4, len4, cap4, rfl⟩ := okWide_slice Trym.underlying22 (hval 4 22 v4 rfl rfl)
  have k4 := h4
  have lt4 : ∀ x ∈ p4, x.block < W.heap.size := by obtain ⟨m, hm⟩ := k4; exact DataW.trod_lt m _ _ _ hm
  obtain ⟨b, off, S, wS⟩ : ∃ b off S, IsStrs W a4 len4 b off S := by
    obtain ⟨fuel, hf⟩ := h4
    rcases open_strings Trym.underlying22 Trym.underlying9 (by kernel_rfl) hf with ⟨hcs, _⟩ | ⟨x, l, c, ss, hcs, _, hl, hm, hz, _, hcell, hws⟩
    · simp [Value.cells] at hcs
      obtain ⟨rfl, rfl, rfl⟩ := hcs
      exact ⟨0, 0, fun _ => ByteArray.empty, by omega, fun h => by omega, fun j hj => by omega, fun j hj => by omega⟩
    · simp [Value.cells] at hcs
      obtain ⟨rfl, rfl, rfl⟩ := hcs
      unfold maxLen at hm hws
      simp only [if_true] at hz
      obtain ⟨b, off, spot⟩ := x
      have hspot : 0 < len4 → spot = none := fun h => by simpa [Addr.add] using World.cell?_spot (hcell 0 (by omega))
      refine ⟨b, off, fun j => ss.getD j ByteArray.empty, by omega, fun h => by rw [hspot h], fun j hj => ?_, fun j hj => ?_⟩
      · have hsn := hspot (by omega)
        subst hsn
        rw [← add_plain]
        exact hcell j (by omega)
      · refine hws _ ?_
        have hj' : j < ss.length := by omega
        simp [List.getD, List.getElem?_eq_getElem hj']
  clear hA0 hval0
  unfold maxLen at w0
  refine (walk a0 a1 a2 a3 a4 len4 cap4 b off S W w0 (bounds64 w1) (bounds64 w2) wS).mono fun e W' ⟨he, bel⟩ => ?_
  subst he
  exact ⟨_, rfl, _, _, _, [], _, [], hW', trodAll_mk1 (shut_bool Trym.underlying4 _), (trodAll_cons_mk (shut_string Trym.underlying9 w0) (trodAll_cons_mk (shut_int Trym.underlying2 w1) (trodAll_cons_mk (shut_int Trym.underlying2 w2) (trodAll_cons_mk (shut_bool Trym.underlying4 _) (trodAll_cons_mk (Below.trod laidOut (by kernel_rfl) (of_decide_eq_true (by kernel_rfl)) k4 bel lt4) trodAll_mk0))))), rfl, bel.frame _, fun h => by cases h⟩

theorem over : Rows.fnWholeIsTheUnboundedRangeFromZeroRow.holds Trym.pinned (OpenSpec.ofChange Rows.fnWholeIsTheUnboundedRangeFromZeroSpec) :=
  OpenClaim.holds_of_wide 3 Trym.f3 rfl rfl rfl rfl rfl rfl rfl ⟨rfl, rfl, rfl, rfl, rfl⟩ rfl rfl rfl rfl rfl (by kernel_rfl) Trym.func3 (by kernel_rfl)
    (of_decide_eq_true (by kernel_rfl)) (by unfold Func.isWrapper; first | (rw [if_pos (by decide +kernel)]; kernel_rfl) | (rw [if_neg (by decide +kernel)]; exact ⟨rfl, rfl⟩))
    (fun os started H enc _ => lifted os started H enc)
end Go.Proofs.Qxb6612380aMods.fnWhole
namespace Go.Proofs.Qxb6612380aMods
theorem fnWhole_holds : Rows.FnWholeIsTheUnboundedRangeFromZeroSaid := fnWhole.over
end Go.Proofs.Qxb6612380aMods
