/-
  PLAIN MATHEMATICS: matching a pattern with stars. 'M' is the table's recursion; 'Inv' what the walk with one remembered star keeps. No Go in sight.
-/
namespace Go.Proofs.Qxb6602868a.Pl

/-- One row of the table, from its end: 'b' items of the subject are left. -/
def rowOf (st : Bool) (sm : Nat → Bool) (nxt : Nat → Bool) (m : Nat) : Nat → Bool
  | 0 => st && nxt m
  | b + 1 => if st then nxt (m - (b + 1)) || rowOf st sm nxt m b else sm (m - (b + 1)) && nxt (m - (b + 1) + 1)
/-- The table, from its end: 'a' items of the pattern are left. -/
def mt (star : Nat → Bool) (same : Nat → Nat → Bool) (n m : Nat) : Nat → Nat → Bool
  | 0, j => j == m
  | a + 1, j => rowOf (star (n - (a + 1))) (same (n - (a + 1))) (mt star same n m a) m (m - j)
/-- Does the pattern from item i on match the subject from item j on? -/
def M (star : Nat → Bool) (same : Nat → Nat → Bool) (n m i j : Nat) : Bool := mt star same n m (n - i) j

variable {star : Nat → Bool} {same : Nat → Nat → Bool} {n m : Nat}

theorem M_end (j : Nat) : M star same n m n j = (j == m) := by
  unfold M
  rw [Nat.sub_self]
  rfl
theorem M_star {i j : Nat} (hi : i < n) (hj : j < m) (hs : star i = true) : M star same n m i j = (M star same n m (i + 1) j || M star same n m i (j + 1)) := by
  unfold M
  obtain ⟨a, ha⟩ : ∃ a, n - i = a + 1 := ⟨n - i - 1, by omega⟩
  obtain ⟨b, hb⟩ : ∃ b, m - j = b + 1 := ⟨m - j - 1, by omega⟩
  have e1 : n - (i + 1) = a := by omega
  have e2 : n - (a + 1) = i := by omega
  have e3 : m - (b + 1) = j := by omega
  have e4 : m - (j + 1) = b := by omega
  rw [ha, e1]
  simp only [mt, e2, hb, e4, rowOf, hs, e3, if_true]
theorem M_star_end {i : Nat} (hi : i < n) (hs : star i = true) : M star same n m i m = M star same n m (i + 1) m := by
  unfold M
  obtain ⟨a, ha⟩ : ∃ a, n - i = a + 1 := ⟨n - i - 1, by omega⟩
  have e1 : n - (i + 1) = a := by omega
  have e2 : n - (a + 1) = i := by omega
  rw [ha, e1]
  simp only [mt, e2, Nat.sub_self, rowOf, hs, Bool.true_and]
theorem M_same {i j : Nat} (hi : i < n) (hj : j < m) (hs : star i = false) : M star same n m i j = (same i j && M star same n m (i + 1) (j + 1)) := by
  unfold M
  obtain ⟨a, ha⟩ : ∃ a, n - i = a + 1 := ⟨n - i - 1, by omega⟩
  obtain ⟨b, hb⟩ : ∃ b, m - j = b + 1 := ⟨m - j - 1, by omega⟩
  have e1 : n - (i + 1) = a := by omega
  have e2 : n - (a + 1) = i := by omega
  have e3 : m - (b + 1) = j := by omega
  rw [ha, e1]
  simp only [mt, e2, hb, rowOf, hs, e3]
  simp
theorem M_same_end {i : Nat} (hi : i < n) (hs : star i = false) : M star same n m i m = false := by
  unfold M
  obtain ⟨a, ha⟩ : ∃ a, n - i = a + 1 := ⟨n - i - 1, by omega⟩
  have e2 : n - (a + 1) = i := by omega
  rw [ha]
  simp only [mt, e2, Nat.sub_self, rowOf, hs, Bool.false_and]

/-- A star takes any run. -/
theorem M_star_iff {i : Nat} (hi : i < n) (hs : star i = true) : ∀ (b j : Nat), j + b = m → (M star same n m i j = true ↔ ∃ j', j ≤ j' ∧ j' ≤ m ∧ M star same n m (i + 1) j' = true)
  | 0, j, hb => by
    obtain rfl : j = m := by omega
    rw [M_star_end hi hs]
    constructor
    · intro h; exact ⟨j, by omega, by omega, h⟩
    · rintro ⟨j', h1, h2, h3⟩
      obtain rfl : j' = j := by omega
      exact h3
  | b + 1, j, hb => by
    rw [M_star hi (by omega) hs, Bool.or_eq_true, M_star_iff hi hs b (j + 1) (by omega)]
    constructor
    · rintro (h | ⟨j', h1, h2, h3⟩)
      · exact ⟨j, by omega, by omega, h⟩
      · exact ⟨j', by omega, h2, h3⟩
    · rintro ⟨j', h1, h2, h3⟩
      by_cases e : j' = j
      · subst e; exact .inl h3
      · exact .inr ⟨j', by omega, h2, h3⟩

/-- Items that are no stars take one subject item each. -/
theorem M_run {i j : Nat} (hj : j ≤ m) (h : M star same n m i j = true) : ∀ d, i + d ≤ n → (∀ k, i ≤ k → k < i + d → star k = false) → j + d ≤ m ∧ M star same n m (i + d) (j + d) = true
  | 0, _, _ => ⟨hj, h⟩
  | d + 1, hd, hs => by
    obtain ⟨h1, h2⟩ := M_run hj h d (by omega) (fun k a b => hs k a (by omega))
    have hst := hs (i + d) (by omega) (by omega)
    by_cases e : j + d = m
    · rw [e, M_same_end (by omega) hst] at h2
      cases h2
    · rw [M_same (by omega) (by omega) hst, Bool.and_eq_true] at h2
      exact ⟨by omega, h2.2⟩

/-- WHAT THE WALK KEEPS. 'bk' is one more than the remembered star's place (0: none was passed). -/
structure Inv (star : Nat → Bool) (same : Nat → Nat → Bool) (n m i j bk bj : Nat) : Prop where
  hi : i ≤ n
  hj : j ≤ m
  hb : bk ≤ i
  hbj : 0 < bk → i + bj = j + bk
  hns : 0 < bk → ∀ k, bk ≤ k → k < i → star k = false
  ans : M star same n m 0 0 = true ↔ (M star same n m i j = true ∨ (0 < bk ∧ ∃ j', bj < j' ∧ j' ≤ m ∧ M star same n m bk j' = true))

theorem Inv.start : Inv star same n m 0 0 0 0 :=
  ⟨Nat.zero_le _, Nat.zero_le _, Nat.le_refl _, fun h => absurd h (by omega), fun h => absurd h (by omega), ⟨fun h => .inl h, fun h => by rcases h with h | ⟨h, _⟩; exact h; omega⟩⟩

/-- A star is passed. -/
theorem Inv.pass {i j bk bj : Nat} (I : Inv star same n m i j bk bj) (hi : i < n) (hj : j < m) (hs : star i = true) : Inv star same n m (i + 1) j (i + 1) j := by
  refine ⟨by omega, I.hj, Nat.le_refl _, fun _ => by omega, fun _ k a b => absurd b (by omega), ?_⟩
  rw [I.ans]
  have e := M_star_iff (same := same) (m := m) hi hs (m - j) j (by omega)
  constructor
  · intro h
    have h' : M star same n m i j = true := by
      rcases h with h | ⟨h0, j', h1, h2, h3⟩
      · exact h
      · obtain ⟨r1, r2⟩ := M_run h2 h3 (i - bk) (by have := I.hb; omega) (fun k a b => I.hns h0 k a (by omega))
        have eb := I.hbj h0
        have hb := I.hb
        have e2 : bk + (i - bk) = i := by omega
        rw [e2] at r2
        have e' := (M_star_iff (same := same) (m := m) hi hs (m - (j' + (i - bk))) (j' + (i - bk)) (by omega)).1 r2
        obtain ⟨j'', q1, q2, q3⟩ := e'
        exact e.2 ⟨j'', by omega, q2, q3⟩
    obtain ⟨j', h1, h2, h3⟩ := e.1 h'
    by_cases ej : j' = j
    · subst ej; exact .inl h3
    · exact .inr ⟨by omega, j', by omega, h2, h3⟩
  · rintro (h | ⟨_, j', h1, h2, h3⟩)
    · exact .inl (e.2 ⟨j, Nat.le_refl _, by omega, h⟩)
    · exact .inl (e.2 ⟨j', by omega, h2, h3⟩)

/-- An item matches. -/
theorem Inv.step {i j bk bj : Nat} (I : Inv star same n m i j bk bj) (hi : i < n) (hj : j < m) (hs : star i = false) (hm : same i j = true) : Inv star same n m (i + 1) (j + 1) bk bj := by
  refine ⟨by omega, by omega, by have := I.hb; omega, fun h => by have := I.hbj h; omega, fun h k a b => ?_, ?_⟩
  · by_cases e : k = i
    · subst e; exact hs
    · exact I.hns h k a (by omega)
  · rw [I.ans, M_same hi hj hs, hm, Bool.true_and]

/-- Nothing matches, and the remembered star takes one more. -/
theorem Inv.back {i j bk bj : Nat} (I : Inv star same n m i j bk bj) (hj : j < m) (hno : i < n → star i = false ∧ same i j = false) (h0 : 0 < bk) : bj < m ∧ Inv star same n m bk (bj + 1) bk (bj + 1) := by
  have eb := I.hbj h0
  have hb := I.hb
  have hi := I.hi
  refine ⟨by omega, by omega, by omega, Nat.le_refl _, fun _ => by omega, fun _ k a b => absurd b (by omega), ?_⟩
  have hf : M star same n m i j = false := by
    by_cases e : i < n
    · obtain ⟨a, b⟩ := hno e
      rw [M_same e hj a, b, Bool.false_and]
    · obtain rfl : i = n := by omega
      rw [M_end]
      simp; omega
  rw [I.ans, hf]
  constructor
  · rintro (h | ⟨_, j', h1, h2, h3⟩)
    · cases h
    · by_cases e : j' = bj + 1
      · subst e; exact .inl h3
      · exact .inr ⟨h0, j', by omega, h2, h3⟩
  · rintro (h | ⟨_, j', h1, h2, h3⟩)
    · exact .inr ⟨h0, bj + 1, by omega, by omega, h⟩
    · exact .inr ⟨h0, j', by omega, h2, h3⟩

/-- Nothing matches and no star was passed. -/
theorem Inv.none {i j bj : Nat} (I : Inv star same n m i j 0 bj) (hj : j < m) (hno : i < n → star i = false ∧ same i j = false) : M star same n m 0 0 = false := by
  have hi := I.hi
  have hf : M star same n m i j = false := by
    by_cases e : i < n
    · obtain ⟨a, b⟩ := hno e
      rw [M_same e hj a, b, Bool.false_and]
    · obtain rfl : i = n := by omega
      rw [M_end]
      simp; omega
  have h := I.ans
  rw [hf] at h
  cases hM : M star same n m 0 0 with
  | false => rfl
  | true =>
    rcases h.1 hM with h | ⟨h, _⟩
    · cases h
    · omega

/-- The subject is at its end. -/
theorem Inv.done {i bk bj : Nat} (I : Inv star same n m i m bk bj) : M star same n m 0 0 = M star same n m i m := by
  rw [Bool.eq_iff_iff, I.ans]
  constructor
  · rintro (h | ⟨h0, j', h1, h2, h3⟩)
    · exact h
    · have hb := I.hb
      have hi := I.hi
      have eb := I.hbj h0
      obtain ⟨r1, _⟩ := M_run h2 h3 (i - bk) (by omega) (fun k a b => I.hns h0 k a (by omega))
      omega
  · intro h; exact .inl h

/-- A measure of the walk: the star's place, then the subject's place behind it, then the pattern's place. -/
def meas (n m i bk bj : Nat) : Nat := (n + 1 - bk) * ((m + 2) * (n + 2)) + ((m - bj) * (n + 2) + (n - i))
theorem meas_star {i j bk bj : Nat} (hi : i < n) (hj : j ≤ m) (hb : bk ≤ i) : meas n m (i + 1) (i + 1) j < meas n m i bk bj := by
  unfold meas
  have h1 : (m - j) * (n + 2) ≤ m * (n + 2) := Nat.mul_le_mul_right _ (by omega)
  have h2 : (n + 1 - (i + 1)) * ((m + 2) * (n + 2)) + ((m + 2) * (n + 2)) ≤ (n + 1 - bk) * ((m + 2) * (n + 2)) := by
    rw [← Nat.succ_mul]
    exact Nat.mul_le_mul_right _ (by omega)
  have h3 : (m + 2) * (n + 2) = m * (n + 2) + 2 * (n + 2) := Nat.add_mul _ _ _
  omega
theorem meas_same {i bk bj : Nat} (hi : i < n) : meas n m (i + 1) bk bj < meas n m i bk bj := by
  unfold meas
  omega
theorem meas_back {i bk bj : Nat} (hbj : bj < m) : meas n m bk bk (bj + 1) < meas n m i bk bj := by
  unfold meas
  have h1 : (m - (bj + 1)) * (n + 2) + (n + 2) = (m - bj) * (n + 2) := by
    rw [← Nat.succ_mul]
    congr 1
    omega
  omega
end Go.Proofs.Qxb6602868a.Pl
