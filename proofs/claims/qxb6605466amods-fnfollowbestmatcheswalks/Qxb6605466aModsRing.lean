/-
  PLAIN MATHEMATICS: WALKS IN A MAP THAT GIVES EACH POSITION ONE SUCCESSOR OR NONE. No Go in sight.
-/
namespace Go.Proofs.Qxb6605466aMods.Ring

/-- Where the walk from i stands after s steps: a negative number: it has run out. -/
def it (f : Nat → Int) (i : Int) : Nat → Int
  | 0 => i
  | s + 1 => if 0 ≤ it f i s then f (it f i s).toNat else it f i s

theorem it_add (f : Nat → Int) (i : Int) (s t : Nat) : it f i (s + t) = it f (it f i s) t := by
  induction t with
  | zero => rfl
  | succ t ih => show (if 0 ≤ it f i (s + t) then f (it f i (s + t)).toNat else it f i (s + t)) = _; rw [ih]; rfl

theorem it_step {f : Nat → Int} {i : Int} {s : Nat} (h : 0 ≤ it f i s) : it f i (s + 1) = f (it f i s).toNat := by
  show (if 0 ≤ it f i s then _ else _) = _; rw [if_pos h]

theorem it_stays {f : Nat → Int} {i : Int} (h : i < 0) (t : Nat) : it f i t = i := by
  induction t with
  | zero => rfl
  | succ t ih => show (if 0 ≤ it f i t then _ else _) = _; rw [ih, if_neg (by omega)]

theorem it_nonneg {f : Nat → Int} {i : Int} {s t : Nat} (h : 0 ≤ it f i t) (hs : s ≤ t) : 0 ≤ it f i s := by
  by_cases hn : 0 ≤ it f i s
  · exact hn
  · have := it_stays (f := f) (i := it f i s) (by omega) (t - s)
    rw [← it_add, show s + (t - s) = t by omega] at this
    omega

theorem it_lt {f : Nat → Int} {n : Nat} (hf : ∀ j, j < n → f j < n) {i : Int} (hi : i < n) (s : Nat) : it f i s < n := by
  induction s with
  | zero => exact hi
  | succ s ih =>
    show (if 0 ≤ it f i s then _ else _) < _
    split
    · exact hf _ (by omega)
    · exact ih

def OnR (f : Nat → Int) (i : Int) : Prop := ∃ s, 1 ≤ s ∧ it f i s = i
def Goes (f : Nat → Int) (i : Int) : Prop := ∀ s, 0 ≤ it f i s
def Lst (f : Nat → Int) (i : Int) : Prop := ∀ s, i ≤ it f i s

theorem pick_lt (x v n : Nat) (h1 : x ≠ v) (h2 : x < n + 1) (h3 : v < n + 1) : (if v < x then x - 1 else x) < n := by split <;> omega
theorem pick_inj (x y v : Nat) (h1 : x ≠ v) (h2 : y ≠ v) (h : (if v < x then x - 1 else x) = (if v < y then y - 1 else y)) : x = y := by
  split at h <;> split at h <;> omega

theorem pigeon (n : Nat) : ∀ g : Nat → Nat, (∀ s, s ≤ n → g s < n) → ∃ s t, s < t ∧ t ≤ n ∧ g s = g t := by
  induction n with
  | zero => intro g h; exact absurd (h 0 (by omega)) (by omega)
  | succ n ih =>
    intro g h
    by_cases hx : ∃ s, s < n + 1 ∧ g s = g (n + 1)
    · obtain ⟨s, hs, he⟩ := hx
      exact ⟨s, n + 1, hs, by omega, he⟩
    · have hne : ∀ s, s ≤ n → g s ≠ g (n + 1) := fun s hs he => hx ⟨s, by omega, he⟩
      have hv := h (n + 1) (by omega)
      obtain ⟨s, t, h1, h2, h3⟩ := ih (fun s => if g (n + 1) < g s then g s - 1 else g s) (fun s hs => pick_lt _ _ _ (hne s hs) (h s (by omega)) hv)
      exact ⟨s, t, h1, by omega, pick_inj _ _ _ (hne s (by omega)) (hne t (by omega)) h3⟩

theorem twice {f : Nat → Int} {n : Nat} {i : Int} (hf : ∀ j, j < n → f j < n) (hi : i < n) (h : 0 ≤ it f i n) : ∃ s t, s < t ∧ t ≤ n ∧ it f i s = it f i t := by
  obtain ⟨s, t, h1, h2, h3⟩ := pigeon n (fun s => (it f i s).toNat) (fun s hs => by
    have := it_lt hf hi s
    have := it_nonneg h hs
    show (it f i s).toNat < n
    omega)
  refine ⟨s, t, h1, h2, ?_⟩
  have := it_nonneg h (show s ≤ n by omega)
  have := it_nonneg h h2
  omega

theorem goes_of {f : Nat → Int} {n : Nat} {i : Int} (hf : ∀ j, j < n → f j < n) (hi : i < n) (h : 0 ≤ it f i n) : Goes f i := by
  obtain ⟨a, b, h1, h2, h3⟩ := twice hf hi h
  intro s
  induction s using Nat.strongRecOn with
  | _ s ih =>
    by_cases hs : s ≤ n
    · exact it_nonneg h hs
    · have e : it f i s = it f i (a + (s - b)) := by
        rw [it_add, h3, ← it_add]; congr 1; omega
      rw [e]
      exact ih _ (by omega)

theorem OnR.small {f : Nat → Int} {n : Nat} {i : Int} (hf : ∀ j, j < n → f j < n) (h0 : 0 ≤ i) (hi : i < n) (h : OnR f i) : ∃ s, 1 ≤ s ∧ s ≤ n ∧ it f i s = i := by
  obtain ⟨s, h1, h2⟩ := h
  induction s using Nat.strongRecOn with
  | _ s ih =>
    by_cases hs : s ≤ n
    · exact ⟨s, h1, hs, h2⟩
    · obtain ⟨a, b, ha, hb, he⟩ := twice hf hi (it_nonneg (t := s) (by omega) (by omega))
      refine ih (a + (s - b)) (by omega) (by omega) ?_
      rw [it_add, he, ← it_add, show b + (s - b) = s by omega, h2]

/-- On a ring: every later place is one of the first p. -/
theorem OnR.back {f : Nat → Int} {i : Int} {p : Nat} (h1 : 1 ≤ p) (h2 : it f i p = i) (s : Nat) : ∃ t, t < p ∧ it f i s = it f i t := by
  induction s using Nat.strongRecOn with
  | _ s ih =>
    by_cases hs : s < p
    · exact ⟨s, hs, rfl⟩
    · obtain ⟨t, ht, he⟩ := ih (s - p) (by omega)
      refine ⟨t, ht, ?_⟩
      rw [← he]
      have := it_add f i p (s - p)
      rw [show p + (s - p) = s by omega, h2] at this
      exact this

theorem OnR.goes {f : Nat → Int} {i : Int} (h0 : 0 ≤ i) (h : OnR f i) : Goes f i := by
  obtain ⟨p, h1, h2⟩ := h
  intro s
  obtain ⟨t, ht, he⟩ := OnR.back h1 h2 s
  rw [he]
  exact it_nonneg (t := p) (by omega) (by omega)

/-- On a ring: one comes back as late as one likes. -/
theorem OnR.late {f : Nat → Int} {i : Int} (h : OnR f i) (m : Nat) : ∃ s, m ≤ s ∧ it f i s = i := by
  obtain ⟨p, h1, h2⟩ := h
  induction m with
  | zero => exact ⟨0, by omega, rfl⟩
  | succ m ih =>
    obtain ⟨s, hs, he⟩ := ih
    refine ⟨s + p, by omega, ?_⟩
    rw [it_add, he, h2]

/-! ### Counting -/
/-- c of the numbers below n have the property. -/
def Cnt (P : Nat → Prop) : Nat → Nat → Prop
  | 0, c => c = 0
  | n + 1, c => (P n ∧ ∃ d, Cnt P n d ∧ c = d + 1) ∨ (¬ P n ∧ Cnt P n c)

theorem Cnt.yes {P : Nat → Prop} {n c : Nat} (h : Cnt P n c) (hp : P n) : Cnt P (n + 1) (c + 1) := Or.inl ⟨hp, c, h, rfl⟩
theorem Cnt.no {P : Nat → Prop} {n c : Nat} (h : Cnt P n c) (hp : ¬ P n) : Cnt P (n + 1) c := Or.inr ⟨hp, h⟩

theorem Cnt.uniq {P : Nat → Prop} {n : Nat} : ∀ {c d : Nat}, Cnt P n c → Cnt P n d → c = d := by
  induction n with
  | zero => intro c d h1 h2; exact h1.trans h2.symm
  | succ n ih =>
    intro c d h1 h2
    rcases h1 with ⟨p1, c', h1, rfl⟩ | ⟨p1, h1⟩ <;> rcases h2 with ⟨p2, d', h2, rfl⟩ | ⟨p2, h2⟩
    · rw [ih h1 h2]
    · exact absurd p1 p2
    · exact absurd p2 p1
    · exact ih h1 h2

theorem Cnt.le {P : Nat → Prop} {n : Nat} : ∀ {c : Nat}, Cnt P n c → c ≤ n := by
  induction n with
  | zero => intro c h; have : c = 0 := h; omega
  | succ n ih =>
    intro c h
    rcases h with ⟨_, d, h, rfl⟩ | ⟨_, h⟩
    · have := ih h; omega
    · have := ih h; omega

theorem Cnt.congr {P Q : Nat → Prop} {n : Nat} : ∀ {c : Nat}, (∀ j, j < n → (P j ↔ Q j)) → Cnt P n c → Cnt Q n c := by
  induction n with
  | zero => intro c _ h; exact h
  | succ n ih =>
    intro c hpq h
    have hn := hpq n (by omega)
    rcases h with ⟨p, d, h, rfl⟩ | ⟨p, h⟩
    · exact (ih (fun j hj => hpq j (by omega)) h).yes (hn.1 p)
    · exact (ih (fun j hj => hpq j (by omega)) h).no (fun q => p (hn.2 q))

theorem Cnt.none {P : Nat → Prop} {n : Nat} (h : ∀ j, j < n → ¬ P j) : Cnt P n 0 := by
  induction n with
  | zero => rfl
  | succ n ih => exact (ih fun j hj => h j (by omega)).no (h n (by omega))

/-- One more has the property. -/
theorem Cnt.more {P Q : Nat → Prop} {n m : Nat} : ∀ {c : Nat}, m < n → ¬ P m → (∀ j, j < n → (Q j ↔ P j ∨ j = m)) → Cnt P n c → Cnt Q n (c + 1) := by
  induction n with
  | zero => intro c hm; omega
  | succ n ih =>
    intro c hm hp hpq h
    have hn := hpq n (by omega)
    by_cases e : m = n
    · subst e
      rcases h with ⟨p, _⟩ | ⟨_, h⟩
      · exact absurd p hp
      · refine Cnt.yes ?_ (hn.2 (Or.inr rfl))
        exact h.congr fun j hj => by rw [hpq j (by omega)]; exact ⟨Or.inl, fun h => h.elim id fun e => by omega⟩
    · rcases h with ⟨p, d, h, rfl⟩ | ⟨p, h⟩
      · exact (ih (by omega) hp (fun j hj => hpq j (by omega)) h).yes (hn.2 (Or.inl p))
      · exact (ih (by omega) hp (fun j hj => hpq j (by omega)) h).no (fun q => (hn.1 q).elim p (fun e' => e e'.symm))

/-! ### What followBest keeps at each start -/
structure Out (f : Nat → Int) (n k : Nat) (seen : Nat → Int) (ring reach : Nat → Bool) (R : Nat) : Prop where
  two : ∀ j, j < n → seen j = 0 ∨ seen j = 2
  upto : ∀ j, j < k → seen j = 2
  clos : ∀ j, j < n → seen j = 2 → 0 ≤ f j → seen (f j).toNat = 2
  ring : ∀ j : Nat, j < n → (ring j = true ↔ seen j = 2 ∧ OnR f j)
  reach : ∀ j : Nat, j < n → seen j = 2 → (reach j = true ↔ Goes f j)
  cnt : Cnt (fun j : Nat => seen j = 2 ∧ OnR f j ∧ Lst f j) n R

theorem Out.start (f : Nat → Int) (n : Nat) : Out f n 0 (fun _ => 0) (fun _ => false) (fun _ => false) 0 :=
  ⟨fun _ _ => Or.inl rfl, fun j hj => by omega, fun _ _ h => by simp at h, fun _ _ => by simp, fun _ _ h => by simp at h, Cnt.none fun _ _ h => by simp at h⟩

/-- The path of m new members from k on; 'now': what the marks read. -/
structure Path (f : Nat → Int) (n k m : Nat) (seen now : Nat → Int) : Prop where
  mem : ∀ t, t < m → 0 ≤ it f k t
  fresh : ∀ t, t < m → seen (it f k t).toNat = 0
  inj : ∀ t u, t < u → u < m → it f k t ≠ it f k u
  on : ∀ t, t < m → now (it f k t).toNat = 1
  off : ∀ j : Nat, j < n → (∀ t, t < m → it f k t ≠ j) → now j = seen j

theorem Path.start (f : Nat → Int) (n k : Nat) (seen : Nat → Int) : Path f n k 0 seen seen :=
  ⟨fun t h => by omega, fun t h => by omega, fun t u _ h => by omega, fun t h => by omega, fun _ _ _ => rfl⟩

variable {f : Nat → Int} {n k m : Nat} {seen now : Nat → Int}

theorem Path.le (hf : ∀ j, j < n → f j < n) (hk : k < n) (h : Path f n k m seen now) : m ≤ n := by
  by_cases hm : m ≤ n
  · exact hm
  · obtain ⟨s, t, h1, h2, h3⟩ := twice (n := n) hf (show (k : Int) < n by omega) (h.mem n (by omega))
    exact absurd h3 (h.inj s t h1 (by omega))

/-- The walk's place, if it is a member, is below n. -/
theorem Path.lt (hf : ∀ j, j < n → f j < n) (hk : k < n) (t : Nat) : it f k t < n := it_lt hf (by omega) t

theorem Path.step (hf : ∀ j, j < n → f j < n) (hk : k < n) (h : Path f n k m seen now) (h0 : 0 ≤ it f k m) (hz : now (it f k m).toNat = 0) :
    Path f n k (m + 1) seen (fun j => if j = (it f k m).toNat then 1 else now j) := by
  have hne : ∀ t, t < m → it f k t ≠ it f k m := fun t ht e => by
    have := h.on t ht
    rw [e, hz] at this
    omega
  have hlt := Path.lt hf hk m
  refine ⟨fun t ht => ?_, fun t ht => ?_, fun t u htu hu => ?_, fun t ht => ?_, fun j hj hne' => ?_⟩
  · by_cases e : t < m
    · exact h.mem t e
    · obtain rfl : t = m := by omega
      exact h0
  · by_cases e : t < m
    · exact h.fresh t e
    · obtain rfl : t = m := by omega
      rw [← h.off (it f k t).toNat (by omega) (fun u hu e' => hne u hu (by omega))]
      exact hz
  · by_cases e : u < m
    · exact h.inj t u htu e
    · obtain rfl : u = m := by omega
      exact hne t htu
  · show (if _ then _ else _) = _
    by_cases e : t < m
    · split
      · rfl
      · exact h.on t e
    · obtain rfl : t = m := by omega
      rw [if_pos rfl]
  · show (if _ then _ else _) = _
    rw [if_neg (fun e => hne' m (by omega) (by omega))]
    exact h.off j hj (fun t ht => hne' t (by omega))

/-- How the marks read when the path is done with: q: where the ring begins on it (m: no ring). -/
structure Marks (f : Nat → Int) (n k m q : Nat) (seen seen' : Nat → Int) (ring ring' reach reach' : Nat → Bool) (b : Bool) : Prop where
  sin : ∀ t, t < m → seen' (it f k t).toNat = 2
  sout : ∀ j : Nat, j < n → (∀ t, t < m → it f k t ≠ j) → seen' j = seen j
  rin : ∀ t, q ≤ t → t < m → ring' (it f k t).toNat = true
  rout : ∀ j : Nat, j < n → (∀ t, q ≤ t → t < m → it f k t ≠ j) → ring' j = ring j
  bin : ∀ t, t < m → reach' (it f k t).toNat = b
  bout : ∀ j : Nat, j < n → (∀ t, t < m → it f k t ≠ j) → reach' j = reach j

variable {seen' : Nat → Int} {ring ring' reach reach' : Nat → Bool} {b : Bool} {q R R' : Nat}

theorem join (hf : ∀ j, j < n → f j < n) (hk : k < n) (hO : Out f n k seen ring reach R) (hP : Path f n k m seen now) (hM : Marks f n k m q seen seen' ring ring' reach reach' b)
    (hend : it f k m < 0 ∨ seen' (it f k m).toNat = 2)
    (hon : ∀ t, t < m → (OnR f (it f k t) ↔ q ≤ t))
    (hgo : ∀ t, t < m → (Goes f (it f k t) ↔ b = true))
    (hcnt : Cnt (fun j : Nat => seen' j = 2 ∧ OnR f j ∧ Lst f j) n R') : Out f n (k + 1) seen' ring' reach' R' := by
  have split : ∀ j : Nat, (∃ t, t < m ∧ it f k t = j) ∨ (∀ t, t < m → it f k t ≠ j) := fun j => by
    by_cases h : ∃ t, t < m ∧ it f k t = j
    · exact Or.inl h
    · exact Or.inr fun t ht e => h ⟨t, ht, e⟩
  have at' : ∀ {j t : Nat}, it f k t = j → (it f k t).toNat = j := fun e => by rw [e]; rfl
  refine ⟨fun j hj => ?_, fun j hj => ?_, fun j hj h2 h0 => ?_, fun j hj => ?_, fun j hj h2 => ?_, hcnt⟩
  · rcases split j with ⟨t, ht, e⟩ | h
    · right; rw [← at' e]; exact hM.sin t ht
    · rw [hM.sout j hj h]; exact hO.two j hj
  · rcases split j with ⟨t, ht, e⟩ | h
    · rw [← at' e]; exact hM.sin t ht
    · rw [hM.sout j (by omega) h]
      by_cases e : j < k
      · exact hO.upto j e
      · obtain rfl : j = k := by omega
        by_cases hm : m = 0
        · subst hm
          have hz : it f j 0 = j := rfl
          rcases hend with h1 | h1
          · rw [hz] at h1; omega
          · rw [hz] at h1
            have h2 := hM.sout j hk h
            rw [← h2]; exact h1
        · exact absurd rfl (h 0 (by omega))
  · rcases split j with ⟨t, ht, e⟩ | h
    · have hs : it f k (t + 1) = f j := by rw [it_step (hP.mem t ht), at' e]
      rw [← hs]
      by_cases htm : t + 1 < m
      · exact hM.sin _ htm
      · obtain rfl : t + 1 = m := by omega
        rcases hend with h1 | h1
        · rw [hs] at h1; omega
        · exact h1
    · rw [hM.sout j hj h] at h2
      have h3 := hO.clos j hj h2 h0
      have hfj := hf j hj
      rcases split (f j).toNat with ⟨t, ht, e⟩ | h'
      · rw [← at' e]; exact hM.sin t ht
      · rw [hM.sout _ (by omega) h']; exact h3
  · rcases split j with ⟨t, ht, e⟩ | h
    · have h1 := hon t ht
      rw [e] at h1
      have h2 := hM.sin t ht
      rw [at' e] at h2
      by_cases hq : q ≤ t
      · have h3 := hM.rin t hq ht
        rw [at' e] at h3
        simp [h2, h3, h1, hq]
      · have h3 := hM.rout j hj (fun u hu hu' e' => by
          by_cases htu : t < u
          · exact hP.inj t u htu hu' (e.trans e'.symm)
          · omega)
        rw [h3, hO.ring j hj, h1]
        have h4 := hP.fresh t ht
        rw [at' e] at h4
        simp [h4, hq]
    · rw [hM.rout j hj (fun u _ hu' => h u hu'), hM.sout j hj h]
      exact hO.ring j hj
  · rcases split j with ⟨t, ht, e⟩ | h
    · have h3 := hM.bin t ht
      rw [at' e] at h3
      have h4 := hgo t ht
      rw [e] at h4
      rw [h3, h4]
    · rw [hM.sout j hj h] at h2
      rw [hM.bout j hj h]
      exact hO.reach j hj h2

/-- The rest of the walk from a member of the path. -/
theorem rest (t : Nat) (ht : t ≤ m) (s : Nat) : it f (it f k m) s = it f (it f k t) (m - t + s) := by
  rw [← it_add, ← it_add]; congr 1; omega

theorem cnt_same (hO : Out f n k seen ring reach R) (hM : Marks f n k m q seen seen' ring ring' reach reach' b)
    (hon : ∀ t, t < m → ¬ OnR f (it f k t)) : Cnt (fun j : Nat => seen' j = 2 ∧ OnR f j ∧ Lst f j) n R := by
  refine hO.cnt.congr fun j hj => ?_
  by_cases h : ∃ t, t < m ∧ it f k t = j
  · obtain ⟨t, ht, e⟩ := h
    have h1 := hon t ht
    rw [e] at h1
    exact ⟨fun h => absurd h.2.1 h1, fun h => absurd h.2.1 h1⟩
  · rw [hM.sout j hj (fun t ht e => h ⟨t, ht, e⟩)]

/-- THE WALK RUNS OUT. -/
theorem join_out (hf : ∀ j, j < n → f j < n) (hk : k < n) (hO : Out f n k seen ring reach R) (hP : Path f n k m seen now) (hneg : it f k m < 0)
    (hM : Marks f n k m m seen seen' ring ring' reach reach' false) : Out f n (k + 1) seen' ring' reach' R := by
  have hng : ∀ t, t < m → ¬ Goes f (it f k t) := fun t ht h => by
    have := h (m - t)
    rw [← it_add, show t + (m - t) = m by omega] at this
    omega
  have hnr : ∀ t, t < m → ¬ OnR f (it f k t) := fun t ht h => hng t ht (h.goes (hP.mem t ht))
  exact join hf hk hO hP hM (Or.inl hneg) (fun t ht => ⟨fun h => absurd h (hnr t ht), fun h => by omega⟩) (fun t ht => ⟨fun h => absurd h (hng t ht), fun h => by simp at h⟩)
    (cnt_same hO hM hnr)

/-- What is done is closed. -/
theorem Out.closed (hf : ∀ j, j < n → f j < n) (hO : Out f n k seen ring reach R) {i : Int} (h0 : 0 ≤ i) (hi : i < n) (h2 : seen i.toNat = 2) (s : Nat) (hs : 0 ≤ it f i s) : seen (it f i s).toNat = 2 := by
  induction s with
  | zero => exact h2
  | succ s ih =>
    have h0' := it_nonneg hs (show s ≤ s + 1 by omega)
    have hl := it_lt hf hi s
    rw [it_step h0'] at hs ⊢
    exact hO.clos _ (by omega) (ih h0') hs

/-- THE WALK MEETS A MEMBER THAT IS DONE. -/
theorem join_done (hf : ∀ j, j < n → f j < n) (hk : k < n) (hO : Out f n k seen ring reach R) (hP : Path f n k m seen now) (h0 : 0 ≤ it f k m) (h2 : now (it f k m).toNat ≠ 0) (h1 : now (it f k m).toNat ≠ 1)
    (hM : Marks f n k m m seen seen' ring ring' reach reach' (reach (it f k m).toNat)) : Out f n (k + 1) seen' ring' reach' R := by
  have hlt := Path.lt hf hk m
  have hoff : ∀ t, t < m → it f k t ≠ ((it f k m).toNat : Int) := fun t ht e => by
    have := hP.on t ht
    rw [e] at this
    exact h1 this
  have hs2 : seen (it f k m).toNat = 2 := by
    have := hP.off _ (show (it f k m).toNat < n by omega) hoff
    rcases hO.two _ (show (it f k m).toNat < n by omega) with h | h
    · rw [this] at h2; exact absurd h h2
    · exact h
  have hnr : ∀ t, t < m → ¬ OnR f (it f k t) := fun t ht h => by
    obtain ⟨s, hs, he⟩ := h.late (m - t)
    have h3 := rest (f := f) (k := k) (m := m) t (by omega) (s - (m - t))
    rw [show m - t + (s - (m - t)) = s by omega, he] at h3
    have h4 := hO.closed hf h0 hlt hs2 (s - (m - t)) (by rw [h3]; exact hP.mem t ht)
    rw [h3, hP.fresh t ht] at h4
    omega
  have hreach := hO.reach _ (show (it f k m).toNat < n by omega) hs2
  rw [show (((it f k m).toNat : Nat) : Int) = it f k m by omega] at hreach
  refine join hf hk hO hP hM (Or.inr ?_) (fun t ht => ⟨fun h => absurd h (hnr t ht), fun h => by omega⟩) (fun t ht => ?_) (cnt_same hO hM hnr)
  · rw [hM.sout _ (by omega) hoff]; exact hs2
  · rw [hreach]
    constructor
    · intro h s
      rw [rest t (by omega) s]
      exact h _
    · intro h s
      by_cases hs : s < m - t
      · rw [← it_add]; exact hP.mem _ (by omega)
      · have := h (s - (m - t))
        rw [rest t (by omega), show m - t + (s - (m - t)) = s by omega] at this
        exact this

/-- The least of some numbers. -/
theorem least_at (g : Nat → Int) (q m : Nat) (h : q < m) : ∃ u, q ≤ u ∧ u < m ∧ ∀ t, q ≤ t → t < m → g u ≤ g t := by
  induction m with
  | zero => omega
  | succ m ih =>
    by_cases hq : q < m
    · obtain ⟨u, h1, h2, h3⟩ := ih hq
      by_cases hl : g u ≤ g m
      · refine ⟨u, h1, by omega, fun t ht ht' => ?_⟩
        by_cases e : t < m
        · exact h3 t ht e
        · obtain rfl : t = m := by omega
          exact hl
      · refine ⟨m, by omega, by omega, fun t ht ht' => ?_⟩
        by_cases e : t < m
        · have := h3 t ht e; omega
        · obtain rfl : t = m := by omega
          exact Int.le_refl _
    · obtain rfl : q = m := by omega
      exact ⟨q, by omega, by omega, fun t ht ht' => by obtain rfl : t = q := by omega
                                                       exact Int.le_refl _⟩

/-- THE WALK COMES BACK ONTO ITSELF, at its q-th member. -/
theorem join_ring (hf : ∀ j, j < n → f j < n) (hk : k < n) (hO : Out f n k seen ring reach R) (hP : Path f n k m seen now) (hq : q < m) (he : it f k q = it f k m)
    (hM : Marks f n k m q seen seen' ring ring' reach reach' true) : Out f n (k + 1) seen' ring' reach' (R + 1) := by
  -- from q on the walk stays on the ring
  have hstay : ∀ s, q ≤ s → ∃ u, q ≤ u ∧ u < m ∧ it f k s = it f k u := fun s => by
    induction s using Nat.strongRecOn with
    | _ s ih =>
      intro hs
      by_cases hsm : s < m
      · exact ⟨s, hs, hsm, rfl⟩
      · obtain ⟨u, h1, h2, h3⟩ := ih (q + (s - m)) (by omega) (by omega)
        refine ⟨u, h1, h2, ?_⟩
        rw [← h3, it_add, he, ← it_add]
        congr 1; omega
  have hall : ∀ s, 0 ≤ it f k s := fun s => by
    by_cases hs : q ≤ s
    · obtain ⟨u, _, h2, h3⟩ := hstay s hs
      rw [h3]; exact hP.mem u h2
    · exact hP.mem s (by omega)
  have hon : ∀ t, t < m → (OnR f (it f k t) ↔ q ≤ t) := fun t ht => by
    constructor
    · intro h
      by_cases hqt : q ≤ t
      · exact hqt
      · obtain ⟨s, hs, h2⟩ := h.late q
        rw [← it_add] at h2
        obtain ⟨u, h3, h4, h5⟩ := hstay (t + s) (by omega)
        exact absurd (h2.symm.trans h5) (hP.inj t u (by omega) h4)
    · intro hqt
      refine ⟨m - q, by omega, ?_⟩
      have e1 : it f k (t + (m - q)) = it f k (m + (t - q)) := by congr 1; omega
      rw [← it_add, e1, it_add, ← he, ← it_add, show q + (t - q) = t by omega]
  have hgo : ∀ t, t < m → (Goes f (it f k t) ↔ true = true) := fun t _ => ⟨fun _ => rfl, fun _ s => by rw [← it_add]; exact hall _⟩
  obtain ⟨u, hu1, hu2, hu3⟩ := least_at (fun t => it f k t) q m hq
  have hu0 := hP.mem u hu2
  have hul := Path.lt hf hk u
  have hlst : ∀ t, q ≤ t → t < m → (Lst f (it f k t) ↔ t = u) := fun t ht ht' => by
    constructor
    · intro h
      have h1 : it f k t ≤ it f k u := by
        obtain ⟨s, hs⟩ : ∃ s, t + s = u ∨ t + s = m + (u - q) := by
          by_cases htu : t ≤ u
          · exact ⟨u - t, Or.inl (by omega)⟩
          · exact ⟨m + (u - q) - t, Or.inr (by omega)⟩
        have h2 := h s
        rw [← it_add] at h2
        rcases hs with hs | hs
        · rw [hs] at h2; exact h2
        · rw [hs, it_add, ← he, ← it_add, show q + (u - q) = u by omega] at h2; exact h2
      have h2 := hu3 t ht ht'
      by_cases e : t = u
      · exact e
      · by_cases htu : t < u
        · exact absurd (show it f k t = it f k u by omega) (hP.inj t u htu hu2)
        · exact absurd (show it f k u = it f k t by omega) (hP.inj u t (by omega) ht')
    · rintro rfl s
      rw [← it_add]
      obtain ⟨v, h1, h2, h3⟩ := hstay (t + s) (by omega)
      rw [h3]
      exact hu3 v h1 h2
  refine join hf hk hO hP hM (Or.inr ?_) hon hgo ?_
  · rw [← he]; exact hM.sin q hq
  · refine hO.cnt.more (m := (it f k u).toNat) (by omega) (fun h => ?_) (fun j hj => ?_)
    · rw [hP.fresh u hu2] at h
      omega
    · by_cases h : ∃ t, t < m ∧ it f k t = j
      · obtain ⟨t, ht, e⟩ := h
        have e' : (it f k t).toNat = j := by rw [e]; rfl
        have h1 := hM.sin t ht
        have h2 := hP.fresh t ht
        have h3 := hon t ht
        rw [e'] at h1 h2
        rw [e] at h3
        constructor
        · rintro ⟨_, ho, hl⟩
          right
          have hqt := h3.1 ho
          have h4 := hlst t hqt ht
          rw [e] at h4
          rw [← h4.1 hl, e']
        · rintro (⟨h5, _⟩ | h5)
          · omega
          · have htu : t = u := by
              by_cases e2 : t = u
              · exact e2
              · by_cases htu : t < u
                · exact absurd (show it f k t = it f k u by omega) (hP.inj t u htu hu2)
                · exact absurd (show it f k u = it f k t by omega) (hP.inj u t (by omega) ht)
            subst htu
            have h4 := hlst t hu1 ht
            rw [e] at h4
            exact ⟨h1, h3.2 hu1, h4.2 rfl⟩
      · have hne : ∀ t, t < m → it f k t ≠ j := fun t ht e => h ⟨t, ht, e⟩
        rw [hM.sout j hj hne]
        constructor
        · exact Or.inl
        · rintro (h5 | h5)
          · exact h5
          · exact absurd (by omega) (hne u hu2)

end Go.Proofs.Qxb6605466aMods.Ring
