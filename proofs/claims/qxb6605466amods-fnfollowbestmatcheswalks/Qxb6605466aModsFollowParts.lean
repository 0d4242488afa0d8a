/-
  WHAT followBest's LOOPS KEEP: the three rows that it makes, the path, and each way's step, outside the walk.
-/
import Derived.Test.Qxb6605466aModsRows
import Derived.Test.Qxb6605466aModsRing
import Derived.WalkKit
import Derived.ProofKit
import Derived.Deep.OwnRows
import Derived.Below
namespace Go.Proofs.Qxb6605466aMods
open Go.RowKit
open Ring (it it_step it_nonneg it_lt it_add it_stays OnR Goes Lst)

/-- The marks in memory: 'seen' at block B, 'onRing' at B + 1, 'reachesRing' at B + 2. -/
structure Wd (B : Nat) (w wr : World) (n : Nat) (seen : Nat → Int) (ring reach : Nat → Bool) : Prop where
  rs : wr.rowIs B 3 n (fun j => .int .i64 (seen j))
  rr : wr.rowIs (B + 1) 4 n (fun j => .bool (ring j))
  rb : wr.rowIs (B + 2) 4 n (fun j => .bool (reach j))
  bel : Below B w wr
  size : B + 3 ≤ wr.heap.size

section
variable {B n : Nat} {w wr w1 : World} {seen : Nat → Int} {ring reach : Nat → Bool}

theorem Wd.grown (h : Wd B w wr n seen ring reach) {row : Option Nat} (hg : wr.grownBy w1 row) (hr : ∀ k, row = some k → B + 3 ≤ k) : Wd B w w1 n seen ring reach := by
  have hb : ∀ k, k < B + 3 → w1.heap[k]? = wr.heap[k]? := fun k hk => hg.block k (by have := h.size; omega) (fun e => by have := hr k e.symm; omega)
  exact ⟨h.rs.of_block (hb _ (by omega)), h.rr.of_block (hb _ (by omega)), h.rb.of_block (hb _ (by omega)), h.bel.grown hg (by have := h.size; omega) (fun k e => by have := hr k e; omega), Nat.le_trans h.size hg.size⟩

theorem Wd.alloc (h : Wd B w wr n seen ring reach) (o : Obj) : Wd B w (wr.alloc o) n seen ring reach :=
  h.grown (World.grownBy_alloc wr o none) (fun k e => by simp at e)

theorem Wd.setSeen (h : Wd B w wr n seen ring reach) (i : Nat) (v : Int) : Wd B w (wr.setCell ⟨B, i, none⟩ (.int .i64 v)) n (fun j => if j = i then v else seen j) ring reach :=
  ⟨(h.rs.set i _).congr (fun j _ => by by_cases e : j = i <;> simp [e]), h.rr.setOther (by simp) _, h.rb.setOther (by simp) _, h.bel.setCell (Nat.le_refl _) _, by simpa [World.setCell] using h.size⟩

theorem Wd.setRing (h : Wd B w wr n seen ring reach) (i : Nat) (v : Bool) : Wd B w (wr.setCell ⟨B + 1, i, none⟩ (.bool v)) n seen (fun j => if j = i then v else ring j) reach :=
  ⟨h.rs.setOther (by simp) _, (h.rr.set i _).congr (fun j _ => by by_cases e : j = i <;> simp [e]), h.rb.setOther (by simp) _, h.bel.setCell (by simp) _, by simpa [World.setCell] using h.size⟩

theorem Wd.setReach (h : Wd B w wr n seen ring reach) (i : Nat) (v : Bool) : Wd B w (wr.setCell ⟨B + 2, i, none⟩ (.bool v)) n seen ring (fun j => if j = i then v else reach j) :=
  ⟨h.rs.setOther (by simp) _, h.rr.setOther (by simp) _, (h.rb.set i _).congr (fun j _ => by by_cases e : j = i <;> simp [e]), h.bel.setCell (by simp) _, by simpa [World.setCell] using h.size⟩
end

/-- The path's numbers, as its cells. -/
def cellsOf (f : Nat → Int) (k m : Nat) : List Value := (List.range m).map fun t => Value.int .i64 (it f k t)

theorem cellsOf_succ (f : Nat → Int) (k m : Nat) : cellsOf f k (m + 1) = cellsOf f k m ++ [.int .i64 (it f k m)] := by
  simp [cellsOf, List.range_succ]

theorem cellsOf_get (f : Nat → Int) (k m t : Nat) (h : t < m) : (cellsOf f k m)[t]? = some (.int .i64 (it f k t)) := by
  simp [cellsOf, h]

/-- The path in memory. -/
def PathIs (B : Nat) (wr : World) (f : Nat → Int) (k m : Nat) (v : Value) : Prop := wr.ownsRow (B + 3) 3 1 v m (cellsOf f k m)

theorem PathIs.form {B : Nat} {wr : World} {f : Nat → Int} {k m : Nat} {v : Value} (h : PathIs B wr f k m v) : ∃ g c, v = .slice (if m = 0 then none else some ⟨g, 0, none⟩) m c ∨ (m = 0 ∧ v = .slice (some ⟨g, 0, none⟩) 0 c) := by
  rcases h.2 with ⟨rfl, rfl⟩ | ⟨g, cap, cur, rfl, _⟩
  · exact ⟨0, 0, Or.inl (by simp)⟩
  · by_cases hm : m = 0
    · subst hm; exact ⟨g, cap, Or.inr ⟨rfl, rfl⟩⟩
    · exact ⟨g, cap, Or.inl (by simp [hm])⟩

/-- A path's value: its address, if it has members. -/
theorem PathIs.at {B : Nat} {wr : World} {f : Nat → Int} {k m : Nat} {v : Value} (h : PathIs B wr f k m v) : ∃ ao c, v = .slice ao m c ∧ (0 < m → ∃ g, ao = some ⟨g, 0, none⟩) := by
  rcases h.2 with ⟨rfl, rfl⟩ | ⟨g, cap, cur, rfl, _⟩
  · exact ⟨none, 0, rfl, fun h => by omega⟩
  · exact ⟨some ⟨g, 0, none⟩, cap, rfl, fun _ => ⟨g, rfl⟩⟩

theorem PathIs.cell {B : Nat} {wr : World} {f : Nat → Int} {k m g c : Nat} (h : PathIs B wr f k m (.slice (some ⟨g, 0, none⟩) m c)) {t : Nat} (ht : t < m) : wr.cell? ⟨g, t, none⟩ = some (.int .i64 (it f k t)) := by
  rw [World.ownsRow.cellAt h t (by omega), cellsOf_get f k m t ht]

theorem PathIs.setCell {B : Nat} {wr : World} {f : Nat → Int} {k m : Nat} {v : Value} (h : PathIs B wr f k m v) {a : Addr} (ha : a.block < B + 3) (u : Value) : PathIs B (wr.setCell a u) f k m v :=
  ownsRow_setCell_below h ha u

theorem PathIs.own {B : Nat} {wr : World} {f : Nat → Int} {k m : Nat} {v : Value} (h : PathIs B wr f k m v) : ∀ g, v.ownBlock = some g → B + 3 ≤ g := by
  intro g hg
  rcases h.2 with ⟨rfl, rfl⟩ | ⟨g', cap, cur, rfl, hb, _⟩
  · simp [Value.ownBlock] at hg
  · simp [Value.ownBlock] at hg
    omega

theorem cell_new (W : World) (z : Nat) (hz : W.heap.size = z) (x : Value) (t : TypeId) : ∀ j u, [x][j]? = some u → (W.alloc (.cells #[x] t)).cell? ((⟨z, 0, none⟩ : Addr).add j) = some u := by
  subst hz
  intro j u hj
  match j, hj with
  | 0, hj => simp at hj; subst hj; simp [Addr.add]

/-- One step of the path. -/
theorem path_step {B b off n k m J : Nat} {w wr w1 : World} {f seen now : Nat → Int} {ring reach : Nat → Bool} {v v' : Value} (hf : ∀ j, j < n → f j < n) (hk : k < n)
    (HP : Ring.Path f n k m seen now) (HW : Wd B w wr n now ring reach) (HPI : PathIs B wr f k m v) (HI : it f k m = J) (hz : now J = 0) (hb : b < B) (hc : w.cell? ⟨b, off + J, none⟩ = some (.int .i64 (f J)))
    (hown : w1.ownsRow (B + 3) 3 1 v' (m + 1) (cellsOf f k m ++ [.int .i64 J])) (hgrow : ((wr.setCell ⟨B, J, none⟩ (.int .i64 1)).alloc (.cells #[.int .i64 J] 3)).grownBy w1 v.ownBlock) :
    Ring.Path f n k (m + 1) seen (fun j => if j = J then 1 else now j) ∧ Wd B w w1 n (fun j => if j = J then 1 else now j) ring reach ∧ PathIs B w1 f k (m + 1) v' ∧ w1.cell? ⟨b, off + J, none⟩ = some (.int .i64 (f J)) ∧ Hid (it f k (m + 1) = f J) := by
  have hW1 := ((HW.setSeen J 1).alloc (.cells #[.int .i64 J] 3)).grown hgrow HPI.own
  refine ⟨?_, hW1, ?_, ?_, ?_⟩
  · have := HP.step hf hk (by omega) (by rw [HI]; exact hz)
    rw [HI] at this
    exact this
  · unfold PathIs
    rw [cellsOf_succ, HI]
    exact hown
  · rw [hW1.bel.cell (p := ⟨b, off + J, none⟩) hb]; exact hc
  · show it f k (m + 1) = f J
    rw [it_step (by omega), HI]; rfl

/-- After the marks of the path are turned: t members done. -/
structure Turned (f : Nat → Int) (n k t : Nat) (now now' : Nat → Int) (reach reach' : Nat → Bool) (b : Bool) : Prop where
  sin : ∀ u, u < t → now' (it f k u).toNat = 2
  sout : ∀ j : Nat, j < n → (∀ u, u < t → it f k u ≠ j) → now' j = now j
  bin : ∀ u, u < t → reach' (it f k u).toNat = b
  bout : ∀ j : Nat, j < n → (∀ u, u < t → it f k u ≠ j) → reach' j = reach j

theorem Turned.start (f : Nat → Int) (n k : Nat) (now : Nat → Int) (reach : Nat → Bool) (b : Bool) : Turned f n k 0 now now reach reach b :=
  ⟨fun u h => by omega, fun _ _ _ => rfl, fun u h => by omega, fun _ _ _ => rfl⟩

theorem Turned.step {f : Nat → Int} {n k t : Nat} {now now' : Nat → Int} {reach reach' : Nat → Bool} {b : Bool} (h : Turned f n k t now now' reach reach' b) (h0 : 0 ≤ it f k t) :
    Turned f n k (t + 1) now (fun j => if j = (it f k t).toNat then 2 else now' j) reach (fun j => if j = (it f k t).toNat then b else reach' j) b := by
  refine ⟨fun u hu => ?_, fun j hj hne => ?_, fun u hu => ?_, fun j hj hne => ?_⟩
  · by_cases e : u < t
    · show (if _ then _ else _) = _
      split
      · rfl
      · exact h.sin u e
    · obtain rfl : u = t := by omega
      show (if _ then _ else _) = _
      rw [if_pos rfl]
  · show (if _ then _ else _) = _
    rw [if_neg (fun e => hne t (by omega) (by omega))]
    exact h.sout j hj (fun u hu => hne u (by omega))
  · by_cases e : u < t
    · show (if _ then _ else _) = _
      split
      · rfl
      · exact h.bin u e
    · obtain rfl : u = t := by omega
      show (if _ then _ else _) = _
      rw [if_pos rfl]
  · show (if _ then _ else _) = _
    rw [if_neg (fun e => hne t (by omega) (by omega))]
    exact h.bout j hj (fun u hu => hne u (by omega))

/-- One round of the last loop. -/
theorem turn_step {B n k m t J : Nat} {w wr : World} {f now now' : Nat → Int} {ring reach reach' : Nat → Bool} {b : Bool} {v : Value} (hT : Turned f n k t now now' reach reach' b) (HW : Wd B w wr n now' ring reach')
    (HPI : PathIs B wr f k m v) (HJ : it f k t = J) :
    Turned f n k (t + 1) now (fun j => if j = J then 2 else now' j) reach (fun j => if j = J then b else reach' j) b ∧
      Wd B w ((wr.setCell ⟨B, J, none⟩ (.int .i64 2)).setCell ⟨B + 2, J, none⟩ (.bool b)) n (fun j => if j = J then 2 else now' j) ring (fun j => if j = J then b else reach' j) ∧
      PathIs B ((wr.setCell ⟨B, J, none⟩ (.int .i64 2)).setCell ⟨B + 2, J, none⟩ (.bool b)) f k m v := by
  refine ⟨?_, (HW.setSeen J 2).setReach J b, (HPI.setCell (by simp) _).setCell (by simp) _⟩
  have := hT.step (by omega)
  rw [HJ] at this
  exact this

/-- The ring's members are marked from the path's end down: those behind K are. -/
structure Marked (f : Nat → Int) (n k m K : Nat) (ring ring' : Nat → Bool) : Prop where
  rin : ∀ t, K ≤ t → t < m → ring' (it f k t).toNat = true
  rout : ∀ j : Nat, j < n → (∀ t, K ≤ t → t < m → it f k t ≠ j) → ring' j = ring j

theorem Marked.start (f : Nat → Int) (n k m : Nat) (ring : Nat → Bool) : Marked f n k m m ring ring :=
  ⟨fun t h h' => by omega, fun _ _ _ => rfl⟩

theorem Marked.step {f : Nat → Int} {n k m K : Nat} {ring ring' : Nat → Bool} (h : Marked f n k m (K + 1) ring ring') (h0 : 0 ≤ it f k K) (hK : K < m) : Marked f n k m K ring (fun j => if j = (it f k K).toNat then true else ring' j) := by
  refine ⟨fun t h1 h2 => ?_, fun j hj hne => ?_⟩
  · by_cases e : K + 1 ≤ t
    · show (if _ then _ else _) = _
      split
      · rfl
      · exact h.rin t e h2
    · obtain rfl : t = K := by omega
      show (if _ then _ else _) = _
      rw [if_pos rfl]
  · show (if _ then _ else _) = _
    rw [if_neg (fun e => hne K (by omega) hK (by omega))]
    exact h.rout j hj (fun t h1 h2 => hne t (by omega) h2)

/-- One round of the ring's loop. -/
theorem mark_step {B n k m K J : Nat} {w wr : World} {f now : Nat → Int} {ring ring' reach : Nat → Bool} {v : Value} (hR : Marked f n k m (K + 1) ring ring') (hK : K < m) (HW : Wd B w wr n now ring' reach)
    (HPI : PathIs B wr f k m v) (HJ : it f k K = J) :
    Marked f n k m K ring (fun j => if j = J then true else ring' j) ∧
      Wd B w (wr.setCell ⟨B + 1, J, none⟩ (.bool true)) n now (fun j => if j = J then true else ring' j) reach ∧
      PathIs B (wr.setCell ⟨B + 1, J, none⟩ (.bool true)) f k m v := by
  refine ⟨?_, HW.setRing J true, HPI.setCell (by simp) _⟩
  have := hR.step (by omega) hK
  rw [HJ] at this
  exact this

/-- The marks as the plain law wants them. -/
theorem marks_of {f : Nat → Int} {n k m q : Nat} {seen now now' : Nat → Int} {ring ring' reach reach' : Nat → Bool} {b : Bool} (hP : Ring.Path f n k m seen now) (hT : Turned f n k m now now' reach reach' b)
    (hR : Marked f n k m q ring ring') : Ring.Marks f n k m q seen now' ring ring' reach reach' b :=
  ⟨hT.sin, fun j hj hne => (hT.sout j hj hne).trans (hP.off j hj hne), hR.rin, hR.rout, hT.bin, hT.bout⟩

/-- A member that is on the path stands on it somewhere. -/
theorem path_at {f : Nat → Int} {n k m R : Nat} {seen now : Nat → Int} {ring reach : Nat → Bool} (hf : ∀ j, j < n → f j < n) (hk : k < n) (hO : Ring.Out f n k seen ring reach R) (hP : Ring.Path f n k m seen now)
    (h0 : 0 ≤ it f k m) (h1 : now (it f k m).toNat = 1) : ∃ q, q < m ∧ it f k q = it f k m := by
  have hl := Ring.Path.lt hf hk m
  by_cases h : ∃ q, q < m ∧ it f k q = it f k m
  · exact h
  · have h2 := hP.off (it f k m).toNat (by omega) (fun t ht e => h ⟨t, ht, by omega⟩)
    rcases hO.two (it f k m).toNat (by omega) with h3 | h3 <;> omega
end Go.Proofs.Qxb6605466aMods
