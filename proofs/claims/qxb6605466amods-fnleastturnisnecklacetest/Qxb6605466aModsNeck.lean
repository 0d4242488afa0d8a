/-
  PLAIN MATHEMATICS: THE FREDRICKSEN-KESSLER-MAIORANA NECKLACE TEST. No Go in sight.
-/
namespace Go.Proofs.Qxb6605466aMods.Neck

/-- No turn of 'a' (of length n) comes before 'a' itself in lexicographic order. -/
def Least (a : Nat → Int) (n : Nat) : Prop :=
  ∀ k, 1 ≤ k → k < n → ∀ t, t < n → (∀ s, s < t → a ((k + s) % n) = a s) → a t ≤ a ((k + t) % n)

/-- What the test knows behind the first m numbers: period p, and a[0..p) is a Lyndon word. -/
structure Inv (a : Nat → Int) (p m : Nat) : Prop where
  pos : 1 ≤ p
  le : p ≤ m
  per : ∀ j, p ≤ j → j < m → a j = a (j - p)
  lyn : ∀ k, 1 ≤ k → k < p → ∃ t, k + t < p ∧ (∀ s, s < t → a (k + s) = a s) ∧ a t < a (k + t)

theorem Inv.start (a : Nat → Int) : Inv a 1 1 :=
  ⟨by omega, by omega, fun j h1 h2 => absurd h1 (by omega), fun k h1 h2 => absurd h1 (by omega)⟩

theorem Inv.down {a : Nat → Int} {p m : Nat} (h : Inv a p m) (q j : Nat) (hj : q * p + j < m) : a (q * p + j) = a j := by
  induction q with
  | zero => simp
  | succ q ih =>
    have e : (q + 1) * p + j = q * p + j + p := by rw [Nat.succ_mul]; omega
    rw [e] at hj ⊢
    rw [h.per _ (by omega) hj, Nat.add_sub_cancel]
    exact ih (by omega)

theorem Inv.same {a : Nat → Int} {p m : Nat} (h : Inv a p m) (he : a (m - p) = a m) : Inv a p (m + 1) :=
  ⟨h.pos, by have := h.le; omega, fun j h1 h2 => by
    by_cases hj : j < m
    · exact h.per j h1 hj
    · have : j = m := by omega
      subst this; exact he.symm, h.lyn⟩

theorem Inv.up {a : Nat → Int} {p m : Nat} (h : Inv a p m) (hl : a (m - p) < a m) : Inv a (m + 1) (m + 1) := by
  have hp := h.pos
  have hle := h.le
  refine ⟨by omega, by omega, fun j h1 h2 => absurd h1 (by omega), fun k h1 h2 => ?_⟩
  have hdm : k / p * p + k % p = k := by rw [Nat.mul_comm]; exact Nat.div_add_mod k p
  have hr := Nat.mod_lt k (show p > 0 by omega)
  generalize hq : k / p = q at *
  generalize hrr : k % p = r at *
  clear hq hrr
  subst hdm
  by_cases hr0 : r = 0
  · subst hr0
    have hq0 : q ≠ 0 := by intro h0; subst h0; simp at h1
    obtain ⟨q', rfl⟩ : ∃ q', q = q' + 1 := ⟨q - 1, by omega⟩
    have e : (q' + 1) * p = q' * p + p := by rw [Nat.succ_mul]
    simp only [Nat.add_zero] at *
    refine ⟨m - (q' + 1) * p, by omega, fun s hs => h.down _ _ (by omega), ?_⟩
    have e1 : (q' + 1) * p + (m - (q' + 1) * p) = m := by omega
    rw [e1]
    have := h.down q' (m - (q' + 1) * p) (by omega)
    rw [show q' * p + (m - (q' + 1) * p) = m - p by omega] at this
    omega
  · obtain ⟨t, ht, hs, hlt⟩ := h.lyn r (by omega) hr
    by_cases hm : q * p + r + t < m
    · refine ⟨t, by omega, fun s hs' => ?_, ?_⟩
      · have := h.down q (r + s) (by omega)
        rw [Nat.add_assoc, this, hs s hs']
      · have := h.down q (r + t) (by omega)
        rw [Nat.add_assoc, this]; exact hlt
    · have hq0 : q ≠ 0 := by intro h0; subst h0; simp at hm; omega
      obtain ⟨q', rfl⟩ : ∃ q', q = q' + 1 := ⟨q - 1, by omega⟩
      have e : (q' + 1) * p = q' * p + p := by rw [Nat.succ_mul]
      have hle' : (q' + 1) * p + r ≤ m := by omega
      refine ⟨m - ((q' + 1) * p + r), by omega, fun s hs' => ?_, ?_⟩
      · have := h.down (q' + 1) (r + s) (by omega)
        rw [Nat.add_assoc, this, hs s (by omega)]
      · generalize ht' : m - ((q' + 1) * p + r) = t'
        have e1 : (q' + 1) * p + r + t' = m := by omega
        rw [e1]
        have hd := h.down q' (r + t') (by omega)
        rw [show q' * p + (r + t') = m - p by omega] at hd
        have hle2 : a t' ≤ a (r + t') := by
          by_cases htt : t' < t
          · rw [hs t' htt]; omega
          · have : t' = t := by omega
            subst this; omega
        omega

/-- A descent against the period: some turn is smaller. -/
theorem Inv.falls {a : Nat → Int} {p m n : Nat} (h : Inv a p m) (hm : m < n) (hl : a m < a (m - p)) : ¬ Least a n := by
  intro hL
  have hp := h.pos
  have hle := h.le
  have := hL p hp (by omega) (m - p) (by omega) (fun s hs => by
    rw [Nat.mod_eq_of_lt (by omega), Nat.add_comm, h.per _ (by omega) (by omega), Nat.add_sub_cancel])
  rw [show p + (m - p) = m by omega, Nat.mod_eq_of_lt hm] at this
  omega

/-- The end: a necklace exactly when p divides n. -/
theorem Inv.ends {a : Nat → Int} {p n : Nat} (h : Inv a p n) : Least a n ↔ n % p = 0 := by
  have hp := h.pos
  have hle := h.le
  constructor
  · intro hL
    by_cases hr0 : n % p = 0
    · exact hr0
    · exfalso
      have hdm : n / p * p + n % p = n := by rw [Nat.mul_comm]; exact Nat.div_add_mod n p
      have hr := Nat.mod_lt n (show p > 0 by omega)
      generalize hq : n / p = q at *
      generalize hrr : n % p = r at *
      have hq0 : q ≠ 0 := by intro h0; subst h0; simp at hdm; omega
      have hqp : p ≤ q * p := Nat.le_mul_of_pos_left p (by omega)
      obtain ⟨t, ht, hs, hlt⟩ := h.lyn r (by omega) hr
      have key : ∀ s, r ≤ s → s < p → a ((q * p + s) % n) = a (s - r) := by
        intro s h1 h2
        rw [show q * p + s = (s - r) + n by omega, Nat.add_mod_right, Nat.mod_eq_of_lt (by omega)]
      have := hL (q * p) (by omega) (by omega) (r + t) (by omega) (fun s hs' => by
        by_cases hsr : s < r
        · rw [Nat.mod_eq_of_lt (by omega)]; exact h.down q s (by omega)
        · rw [key s (by omega) (by omega)]
          have := hs (s - r) (by omega)
          rw [show r + (s - r) = s by omega] at this
          exact this.symm)
      rw [key (r + t) (by omega) ht, show r + t - r = t by omega] at this
      omega
  · intro hd k h1 h2 t ht heq
    have hdn : n / p * p = n := by have := Nat.div_add_mod n p; rw [Nat.mul_comm] at this; omega
    have hdm : k / p * p + k % p = k := by rw [Nat.mul_comm]; exact Nat.div_add_mod k p
    have hr := Nat.mod_lt k (show p > 0 by omega)
    generalize hq : k / p = q at *
    generalize hrr : k % p = r at *
    generalize hQ : n / p = Q at *
    by_cases hr0 : r = 0
    · subst hr0
      have hk : q * p = k := by omega
      by_cases hkt : k + t < n
      · rw [Nat.mod_eq_of_lt hkt, ← hk, h.down q t (by omega)]; omega
      · rw [show k + t = (k + t - n) + n by omega, Nat.add_mod_right, Nat.mod_eq_of_lt (by omega)]
        have hqQ : q ≤ Q := by
          apply Nat.le_of_mul_le_mul_right (c := p) _ (by omega)
          omega
        have hsub : (Q - q) * p + q * p = n := by rw [← Nat.add_mul, Nat.sub_add_cancel hqQ, hdn]
        have := h.down (Q - q) (k + t - n) (by omega)
        rw [show (Q - q) * p + (k + t - n) = t by omega] at this
        omega
    · obtain ⟨u, hu, hs, hlt⟩ := h.lyn r (by omega) hr
      have hqQ : q < Q := by
        apply Nat.lt_of_mul_lt_mul_right (a := p)
        omega
      have hq1 : (q + 1) * p ≤ Q * p := Nat.mul_le_mul_right p hqQ
      have e : (q + 1) * p = q * p + p := by rw [Nat.succ_mul]
      by_cases htu : t < u
      · have := h.down q (r + t) (by omega)
        rw [Nat.mod_eq_of_lt (by omega), ← hdm, Nat.add_assoc, this, hs t htu]
        omega
      · by_cases htu2 : t = u
        · subst htu2
          have := h.down q (r + t) (by omega)
          rw [Nat.mod_eq_of_lt (by omega), ← hdm, Nat.add_assoc, this]
          omega
        · exfalso
          have h3 := heq u (by omega)
          have := h.down q (r + u) (by omega)
          rw [Nat.mod_eq_of_lt (by omega), ← hdm, Nat.add_assoc, this] at h3
          omega

/-- The turns below K have been tried. -/
def Upto (a : Nat → Int) (n K : Nat) : Prop :=
  ∀ k, 1 ≤ k → k < K → ∀ t, t < n → (∀ s, s < t → a ((k + s) % n) = a s) → a t ≤ a ((k + t) % n)

theorem Upto.start (a : Nat → Int) (n : Nat) : Upto a n 1 := fun k h1 h2 => absurd h1 (by omega)

theorem Upto.same {a : Nat → Int} {n K : Nat} (h : Upto a n K) (he : ∀ s, s < n → a ((K + s) % n) = a s) : Upto a n (K + 1) := by
  intro k h1 h2 t ht hs
  by_cases hk : k < K
  · exact h k h1 hk t ht hs
  · have : k = K := by omega
    subst this
    rw [he t ht]; omega

theorem Upto.more {a : Nat → Int} {n K I : Nat} (h : Upto a n K) (he : ∀ s, s < I → a ((K + s) % n) = a s) (hd : a I < a ((K + I) % n)) : Upto a n (K + 1) := by
  intro k h1 h2 t ht hs
  by_cases hk : k < K
  · exact h k h1 hk t ht hs
  · have : k = K := by omega
    subst this
    by_cases h3 : t < I
    · rw [he t h3]; omega
    · by_cases h4 : t = I
      · subst h4; omega
      · have := hs I (by omega); omega

theorem Upto.less {a : Nat → Int} {n K I : Nat} (hK1 : 1 ≤ K) (hK : K < n) (hI : I < n) (he : ∀ s, s < I → a ((K + s) % n) = a s) (hd : a ((K + I) % n) < a I) : ¬ Least a n := by
  intro h
  have := h K hK1 hK I hI he
  omega

theorem Upto.ends {a : Nat → Int} {n K : Nat} (h : Upto a n K) (hK : n ≤ K) : Least a n :=
  fun k h1 h2 => h k h1 (by omega)

theorem least_small (a : Nat → Int) (n : Nat) (h : n ≤ 1) : Least a n := fun k h1 h2 => absurd h1 (by omega)
end Go.Proofs.Qxb6605466aMods.Neck
