/-
  WHAT THE LOOP OF FnDefSeesEachNewDefinition KEEPS, outside the walk.
-/
import Derived.Test.Qxb6613032aModsDefMap
import Derived.Test.Qxb6613032aModsItoa
namespace Go.Proofs.Qxb6613032aMods.Def
open Go.ChangeShapes Go.WideShapes Go.ChangeAt Go.RowKit Go.Maps Go.WideMaps Go.WideElems

theorem Trym.size32d : (Trym.prog.info? 32).map (·.size) = some 9 := by kernel_rfl

theorem neq_same (a : Addr) (w : World) : (binOp .neq 25 (.pointer (some a)) (.pointer (some a))).run Trym.prog w = .ok (.bool false) w := by
  obtain ⟨j, hj, hjs⟩ := Option.map_eq_some_iff.1 Trym.size32d
  have h : ∀ d : Nat, (Op.equalIn (d + 1) 25 (.pointer (some a)) (.pointer (some a))).run Trym.prog w = .ok true w := fun d => by
    simp [Op.equalIn, run_underlying Trym.underlying25, sizeOf, typeInfo, hj, run_sameAddr_same]
  simp only [binOp]
  simp [Op.equal, Op.maxDepth, h 9999]

/-- The models at block m, its map at block B, in the world wr of a call that began in w. -/
structure St (w wr : World) (m B : Nat) (v3 : Bool) (n : Nat) (D : DataW Unit) : Prop where
  c0 : wr.cell? ⟨m, 0, none⟩ = some (.bool v3)
  c1 : wr.cell? ⟨m, 1, none⟩ = some (.map (some B))
  own : wr.ownsMap Trym.prog 9 ptrElem B n D
  bel : Below w.heap.size w wr
  hB : w.heap.size ≤ B

theorem grown_of_below {w w1 : World} (h : Below w.heap.size w w1) : w.grownBy w1 none :=
  ⟨h.os, h.tape, h.output, h.size, fun k hk _ => h.block k hk⟩

theorem ne_map {w : World} {p o B n : Nat} {v : Value} {D : DataW Unit} (h : w.cell? ⟨p, o, none⟩ = some v) (ho : w.ownsMap Trym.prog 9 ptrElem B n D) : p ≠ B := by
  rintro rfl
  obtain ⟨es, clock, hb, -⟩ := ho
  simp [World.cell?, hb] at h

section
variable {w wr w1 : World} {m B n : Nat} {v3 : Bool} {D : DataW Unit}

theorem St.later (h : St w wr m B v3 n D) (hb : Below wr.heap.size wr w1) : St w w1 m B v3 n D :=
  ⟨(hb.cell (p := ⟨m, 0, none⟩) (World.block_lt_of_cell? _ _ h.c0)).trans h.c0, (hb.cell (p := ⟨m, 1, none⟩) (World.block_lt_of_cell? _ _ h.c1)).trans h.c1,
    h.own.kept (grown_of_below hb) (by simp), h.bel.trans (hb.mono h.bel.size), h.hB⟩

theorem St.drewN (h : St w wr m B v3 n D) (q : Nat) : St w (wr.drewN q) m B v3 n D := ⟨h.c0, h.c1, h.own, below_drewN h.bel q, h.hB⟩

theorem St.alloc (h : St w wr m B v3 n D) (o : Obj) : St w (wr.alloc o) m B v3 n D := h.later ((Below.refl _ _).alloc (Nat.le_refl _) o)

theorem St.set (h : St w wr m B v3 n D) {D' : DataW Unit} {n' : Nat} (ho : w1.ownsMap Trym.prog 9 ptrElem B n' D') (hg : wr.grownBy w1 (some B)) : St w w1 m B v3 n' D' :=
  ⟨hg.cell h.c0 (by have := ne_map h.c0 h.own; simpa using this), hg.cell h.c1 (by have := ne_map h.c1 h.own; simpa using this), ho,
    h.bel.grown hg h.bel.size (fun k e => by cases e; exact h.hB), h.hB⟩
end

theorem st_start (w : World) (v3 : Bool) : St w ((w.alloc (.map #[] 0)).alloc (.cells #[.bool v3, .map (some w.heap.size)] 46)) (w.heap.size + 1) w.heap.size v3 0 (.map []) :=
  ⟨by rw [World.cell?_alloc_at _ _ _ _ (by simp)]; rfl, by rw [World.cell?_alloc_at _ _ _ _ (by simp)]; rfl, (World.ownsMap_made w Trym.prog 9 ptrElem).alloc _, ((Below.refl _ _).alloc (Nat.le_refl _) _).alloc (by simp) _, Nat.le_refl _⟩

/-- What is known of the first name: its schema lies at block p, registered at step l. -/
structure First (wr : World) (S0 : ByteArray) (D : DataW Unit) (l p : Nat) : Prop where
  at0 : D.atKey (keyLit S0) .nil = .lit (.int .i64 p)
  desc : wr.cell? ⟨p, 2, none⟩ = some (.string (itoaS l))

theorem First.later {wr w1 : World} {S0 : ByteArray} {D : DataW Unit} {l p : Nat} (h : First wr S0 D l p) (hb : Below wr.heap.size wr w1) : First w1 S0 D l p :=
  ⟨h.at0, (hb.cell (p := ⟨p, 2, none⟩) (World.block_lt_of_cell? _ _ h.desc)).trans h.desc⟩

theorem isKey (s : ByteArray) : WideAt.IsKeyLit (keyLit s) := trivial

theorem key_ne {a b : ByteArray} (h : a ≠ b) : keyLit a ≠ keyLit b := by
  intro e
  apply h
  have e2 : a.data.toList = b.data.toList := by simpa using e
  apply ByteArray.ext
  exact Array.toList_inj.1 e2

/-- A schema just made. -/
theorem schema_desc (w : World) (ref desc : ByteArray) : (w.alloc (schemaOf ref desc)).cell? ⟨w.heap.size, 2, none⟩ = some (.string desc) := by simp [schemaOf]
theorem schema_ref (w : World) (ref desc : ByteArray) : (w.alloc (schemaOf ref desc)).cell? ⟨w.heap.size, 0, none⟩ = some (.string ref) := by simp [schemaOf]

/-- Registered under the first name. -/
theorem First.hit {w2 w3 : World} {B n s l : Nat} {S0 : ByteArray} {D : DataW Unit} (hd : w2.cell? ⟨s, 2, none⟩ = some (.string (itoaS l))) (ho : w2.ownsMap Trym.prog 9 ptrElem B n D)
    (hg : w2.grownBy w3 (some B)) : First w3 S0 (D.put (keyLit S0) (.lit (.int .i64 s))) l s :=
  ⟨atKey_put_same ho.isMap (isKey S0) _ _, hg.cell hd (by have := ne_map hd ho; simpa using this)⟩

/-- Registered under another name. -/
theorem First.miss {w2 w3 : World} {B n s l p : Nat} {S0 Si : ByteArray} {D : DataW Unit} (h : First w2 S0 D l p) (hne : S0 ≠ Si) (ho : w2.ownsMap Trym.prog 9 ptrElem B n D) (hg : w2.grownBy w3 (some B)) : First w3 S0 (D.put (keyLit Si) (.lit (.int .i64 s))) l p :=
  ⟨by rw [atKey_put_other (key_ne hne)]; exact h.at0, hg.cell h.desc (by have := ne_map h.desc ho; simpa using this)⟩

theorem at_same {w2 : World} {B n s : Nat} {Si : ByteArray} {D : DataW Unit} (ho : w2.ownsMap Trym.prog 9 ptrElem B n D) : (D.put (keyLit Si) (.lit (.int .i64 s))).atKey (keyLit Si) .nil = .lit (.int .i64 s) :=
  atKey_put_same ho.isMap (isKey Si) _ _

/-- WHAT THE WALK IS TOLD OF THE SLICE OF STRINGS: n elements, the strings S j. -/
structure IsStrs (w : World) (ao : Option Addr) (n : Nat) (b off : Nat) (S : Nat → ByteArray) : Prop where
  len : n ≤ 9223372036854775807
  addr : 0 < n → ao = some ⟨b, off, none⟩
  cell : ∀ j, j < n → w.cell? ⟨b, off + j, none⟩ = some (.string (S j))
  size : ∀ j, j < n → (S j).size ≤ 9223372036854775807

/-- The call answers some bool; where it is true, p holds. -/
def Tells (e : Ending) (p : Prop) : Prop := ∃ r : Bool, e = .returned (.bool r) ∧ (r = true → p)
theorem Tells.no {p : Prop} : Tells (.returned (.bool false)) p := ⟨false, rfl, fun h => by simp at h⟩
theorem Tells.yes {p : Prop} (h : p) : Tells (.returned (.bool true)) p := ⟨true, rfl, fun _ => h⟩

/-- Every string is short. -/
def Short (S : Nat → ByteArray) (n : Nat) : Prop := ∀ j, j < n → (S j).size ≤ 1048576

theorem Short.step {S : Nat → ByteArray} {k : Nat} (h : Short S k) (hk : (S k).size ≤ 1048576) : Short S (k + 1) := fun j hj => by
  by_cases e : j < k
  · exact h j e
  · obtain rfl : j = k := by omega
    exact hk

set_option maxHeartbeats 400000 in
theorem bytes_any (v3 : Bool) (ao : Option Addr) (n c b off : Nat) (S : Nat → ByteArray) (w : World) (hS : IsStrs w ao n b off S) :
    Calls Trym.prog 9 #[.bool v3, .slice ao n c] w fun e w' => Tells e (Short S n) ∧ w' = w := by
  have hn := hS.len
  by_cases h2 : n ≤ 1048576
  · have hd2 : decide ((1048576 : Int) < (n : Int)) = false := decide_eq_false (by omega)
    go_enter Trym.func9, Trym.ntmps9
    go_wp2
    go_loop [5, 6] (fun x i => ∃ k z : Nat, k ≤ n ∧ z ≤ 1048576 ∧ i = .int .i64 k ∧ x = .int .i64 z ∧ Short S k) (fun _ i => n - (intOf i).toNat)
    case atStart => exact ⟨0, n, by omega, by omega, rfl, by go_num, fun j hj => by omega⟩
    case round =>
      obtain ⟨k, z, hk, hz, rfl, rfl, HS⟩ := hrel
      have HS2 : Hid (Short S k) := HS
      clear HS
      by_cases hlt : k < n
      · obtain rfl := hS.addr (by omega)
        have h0 := hS.cell k hlt
        have h4 := hS.size k hlt
        go_wp2
        · go_ret
          exact ⟨.no, rfl⟩
        · go_ret
          exact ⟨.no, rfl⟩
        · have h5 : (z : Int) + ((S k).size : Int) ≤ 1048576 := by assumption
          go_round
          case rel => exact ⟨k + 1, z + (S k).size, by omega, by omega, by go_num, by go_num, HS2.out.step (by omega)⟩
          case measure => simp [intOf]; omega
      · obtain rfl : k = n := by omega
        go_wp2
        go_ret
        exact ⟨.yes HS2.out, rfl⟩
  · go_enter Trym.func9, Trym.ntmps9
    go_wp2
    go_ret
    exact ⟨.no, rfl⟩
end Go.Proofs.Qxb6613032aMods.Def
