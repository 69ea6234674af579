namespace Go.Proofs.Qxb6617276a.Plain

/-- 'm' is the least of z over [a, b). -/
def IsMin (z : Nat → Int) (a b : Nat) (m : Int) : Prop :=
  (∃ p, a ≤ p ∧ p < b ∧ z p = m) ∧ ∀ p, a ≤ p → p < b → m ≤ z p

/-- The tree's shape. -/
def Wf (z : Nat → Int) (n : Nat) : Prop := ∀ k, 1 ≤ k → k < n → z k = min (z (2 * k)) (z (2 * k + 1))

/-- The loop's relation: what is known of (least, i, j) over the run [lo, hi). -/
def Rel (z : Nat → Int) (n lo hi : Nat) (m : Int) (a b : Nat) : Prop :=
  1 ≤ a ∧ b ≤ 2 * n ∧ (∃ p, lo ≤ p ∧ p < hi ∧ z p = m) ∧ (∀ r, a ≤ r → r < b → ∃ p, lo ≤ p ∧ p < hi ∧ z p = z r) ∧
    ∀ q, lo ≤ q → q < hi → m ≤ z q ∨ ∃ r, a ≤ r ∧ r < b ∧ z r ≤ z q

theorem rel_start (z : Nat → Int) (n lo hi : Nat) (h1 : 1 ≤ lo) (h2 : lo < hi) (h3 : hi ≤ 2 * n) : Rel z n lo hi (z lo) lo hi :=
  ⟨h1, h3, ⟨lo, Nat.le_refl _, h2, rfl⟩, fun r ha hb => ⟨r, ha, hb, rfl⟩, fun q ha hb => .inr ⟨q, ha, hb, Int.le_refl _⟩⟩

theorem rel_end {z : Nat → Int} {n lo hi : Nat} {m : Int} {a b : Nat} (h : Rel z n lo hi m a b) (hab : b ≤ a) : IsMin z lo hi m := by
  obtain ⟨_, _, h3, _, h5⟩ := h
  refine ⟨h3, fun q h1 h2 => ?_⟩
  rcases h5 q h1 h2 with h | ⟨r, hr1, hr2, _⟩
  · exact h
  · omega

/-- the left end is odd: it is taken, and the run begins one later -/
theorem rel_left {z : Nat → Int} {n lo hi : Nat} {m : Int} {a b : Nat} (h : Rel z n lo hi m a b) (hab : a < b) : Rel z n lo hi (min m (z a)) (a + 1) b := by
  obtain ⟨h1, h2, h3, h4, h5⟩ := h
  refine ⟨by omega, h2, ?_, fun r hr1 hr2 => h4 r (by omega) hr2, fun q hq1 hq2 => ?_⟩
  · by_cases hm : m ≤ z a
    · rw [Int.min_eq_left hm]; exact h3
    · rw [Int.min_eq_right (by omega)]; exact h4 a (Nat.le_refl _) hab
  · rcases h5 q hq1 hq2 with h | ⟨r, hr1, hr2, hr3⟩
    · exact .inl (by omega)
    · by_cases hr : r = a
      · subst hr; exact .inl (by omega)
      · exact .inr ⟨r, by omega, hr2, hr3⟩

/-- the right end is odd: the last of the run is taken -/
theorem rel_right {z : Nat → Int} {n lo hi : Nat} {m : Int} {a b : Nat} (h : Rel z n lo hi m a (b + 1)) (hab : a ≤ b) : Rel z n lo hi (min m (z b)) a b := by
  obtain ⟨h1, h2, h3, h4, h5⟩ := h
  refine ⟨h1, by omega, ?_, fun r hr1 hr2 => h4 r hr1 (by omega), fun q hq1 hq2 => ?_⟩
  · by_cases hm : m ≤ z b
    · rw [Int.min_eq_left hm]; exact h3
    · rw [Int.min_eq_right (by omega)]; exact h4 b hab (by omega)
  · rcases h5 q hq1 hq2 with h | ⟨r, hr1, hr2, hr3⟩
    · exact .inl (by omega)
    · by_cases hr : r = b
      · subst hr; exact .inl (by omega)
      · exact .inr ⟨r, hr1, by omega, hr3⟩

/-- both ends are even: one storey up -/
theorem rel_up {z : Nat → Int} {n lo hi : Nat} {m : Int} {a b : Nat} (wf : Wf z n) (h : Rel z n lo hi m (2 * a) (2 * b)) : Rel z n lo hi m a b := by
  obtain ⟨h1, h2, h3, h4, h5⟩ := h
  refine ⟨by omega, by omega, h3, fun r hr1 hr2 => ?_, fun q hq1 hq2 => ?_⟩
  · have e := wf r (by omega) (by omega)
    rw [e]
    by_cases hm : z (2 * r) ≤ z (2 * r + 1)
    · rw [Int.min_eq_left hm]; exact h4 _ (by omega) (by omega)
    · rw [Int.min_eq_right (by omega)]; exact h4 _ (by omega) (by omega)
  · rcases h5 q hq1 hq2 with h | ⟨r, hr1, hr2, hr3⟩
    · exact .inl h
    · refine .inr ⟨r / 2, by omega, by omega, ?_⟩
      have e := wf (r / 2) (by omega) (by omega)
      rw [e]
      rcases Nat.mod_two_eq_zero_or_one r with h | h
      · have : 2 * (r / 2) = r := by omega
        rw [this]; omega
      · have : 2 * (r / 2) + 1 = r := by omega
        rw [this]; omega

/-- THE LAW: the least of the whole is the smaller of the leasts of the parts, and lies in the run. -/
theorem splits {z : Nat → Int} {a b c : Nat} {w l r : Int} (hw : IsMin z a c w) (hl : IsMin z a b l) (hr : IsMin z b c r) : w = if r < l then r else l := by
  obtain ⟨⟨p, hp1, hp2, rfl⟩, hw2⟩ := hw
  obtain ⟨⟨q, hq1, hq2, rfl⟩, hl2⟩ := hl
  obtain ⟨⟨s, hs1, hs2, rfl⟩, hr2⟩ := hr
  have e1 := hw2 q hq1 (by omega)
  have e2 := hw2 s (by omega) hs2
  by_cases hp : p < b
  · have e3 := hl2 p hp1 hp
    split <;> omega
  · have e3 := hr2 p (by omega) hp2
    split <;> omega

theorem min_if (m x : Int) : min m x = if x < m then x else m := by split <;> omega

theorem step_ee {z : Nat → Int} {n lo hi : Nat} {m : Int} {a b : Nat} (wf : Wf z n) (h : Rel z n lo hi m a b) (ha : a % 2 = 0) (hb : b % 2 = 0) : Rel z n lo hi m (a / 2) (b / 2) := by
  refine rel_up wf ?_
  rw [show 2 * (a / 2) = a from by omega, show 2 * (b / 2) = b from by omega]
  exact h

theorem step_eo {z : Nat → Int} {n lo hi : Nat} {m : Int} {a b : Nat} (wf : Wf z n) (h : Rel z n lo hi m a b) (hab : a < b) (ha : a % 2 = 0) (hb : b % 2 = 1) :
    Rel z n lo hi (if z (b - 1) < m then z (b - 1) else m) (a / 2) ((b - 1) / 2) := by
  have h1 : Rel z n lo hi m a (b - 1 + 1) := by rw [show b - 1 + 1 = b from by omega]; exact h
  have h2 := rel_right h1 (by omega)
  rw [min_if] at h2
  exact step_ee wf h2 ha (by omega)

theorem step_oe {z : Nat → Int} {n lo hi : Nat} {m : Int} {a b : Nat} (wf : Wf z n) (h : Rel z n lo hi m a b) (hab : a < b) (ha : a % 2 = 1) (hb : b % 2 = 0) :
    Rel z n lo hi (if z a < m then z a else m) ((a + 1) / 2) (b / 2) := by
  have h2 := rel_left h hab
  rw [min_if] at h2
  exact step_ee wf h2 (by omega) hb

theorem step_oo {z : Nat → Int} {n lo hi : Nat} {m : Int} {a b : Nat} (wf : Wf z n) (h : Rel z n lo hi m a b) (hab : a < b) (ha : a % 2 = 1) (hb : b % 2 = 1) :
    Rel z n lo hi (if z (b - 1) < (if z a < m then z a else m) then z (b - 1) else (if z a < m then z a else m)) ((a + 1) / 2) ((b - 1) / 2) := by
  have h2 := rel_left h hab
  rw [min_if] at h2
  exact step_eo wf h2 (by omega) (by omega) hb

theorem snoc_lt {z : Nat → Int} {k : Nat} (h : ∀ q, 1 ≤ q → q < k → z q = min (z (2 * q)) (z (2 * q + 1))) (h1 : z (2 * k + 1) < z (2 * k)) (h2 : (z k != z (2 * k + 1)) = false) :
    ∀ q, 1 ≤ q → q < k + 1 → z q = min (z (2 * q)) (z (2 * q + 1)) := by
  intro q hq1 hq2
  by_cases e : q = k
  · subst e
    have : z q = z (2 * q + 1) := by simpa using h2
    omega
  · exact h q hq1 (by omega)

theorem snoc_le {z : Nat → Int} {k : Nat} (h : ∀ q, 1 ≤ q → q < k → z q = min (z (2 * q)) (z (2 * q + 1))) (h1 : z (2 * k) ≤ z (2 * k + 1)) (h2 : (z k != z (2 * k)) = false) :
    ∀ q, 1 ≤ q → q < k + 1 → z q = min (z (2 * q)) (z (2 * q + 1)) := by
  intro q hq1 hq2
  by_cases e : q = k
  · subst e
    have : z q = z (2 * q) := by simpa using h2
    omega
  · exact h q hq1 (by omega)
end Go.Proofs.Qxb6617276a.Plain
