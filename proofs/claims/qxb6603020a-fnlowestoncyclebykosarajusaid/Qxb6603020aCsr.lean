/-
  PLAIN: a graph held as targets 'out' and offsets 'at'; the reversed edges by counting. No Go in sight.
-/
import Derived.Test.Qxb6603020aKosa
namespace Go.Proofs.Qxb6603020a.Pl

/-- A well-formed graph of n nodes. -/
structure Csr (n : Nat) (out : Nat → Nat) (pos : Nat → Nat) : Prop where
  mono : ∀ v, v < n → pos v ≤ pos (v + 1)
  tg : ∀ e, pos 0 ≤ e → e < pos n → out e < n

variable {n : Nat} {out pos : Nat → Nat}

def degC (pos : Nat → Nat) (v : Nat) : Nat := pos (v + 1) - pos v
def tgtC (out pos : Nat → Nat) (v j : Nat) : Nat := out (pos v + j)
/-- The graph's edges. -/
def EC (n : Nat) (out pos : Nat → Nat) : Nat → Nat → Prop := Ed n (degC pos) (tgtC out pos)

theorem Csr.le (C : Csr n out pos) {a : Nat} : ∀ {b : Nat}, a ≤ b → b ≤ n → pos a ≤ pos b
  | 0, h, _ => by rw [Nat.le_zero.1 h]; exact Nat.le_refl _
  | b + 1, h, hb => by
    by_cases e : a = b + 1
    · rw [e]; exact Nat.le_refl _
    · exact Nat.le_trans (C.le (by omega) (by omega)) (C.mono b (by omega))
theorem Csr.lt (C : Csr n out pos) {v j : Nat} (hv : v < n) (hj : j < degC pos v) : tgtC out pos v j < n := by
  unfold degC at hj
  refine C.tg _ ?_ ?_
  · have := C.le (Nat.zero_le v) (Nat.le_of_lt hv); omega
  · have := C.le (show v + 1 ≤ n by omega) (Nat.le_refl n); omega
theorem Csr.edge (C : Csr n out pos) {a b : Nat} (h : EC n out pos a b) : a < n ∧ b < n := by
  obtain ⟨h1, j, h2, h3⟩ := h
  exact ⟨h1, by rw [← h3]; exact C.lt h1 h2⟩

/-- v is the source of edge e. -/
def Src (n : Nat) (pos : Nat → Nat) (v e : Nat) : Prop := v < n ∧ pos v ≤ e ∧ e < pos (v + 1)
theorem Csr.src_unique (C : Csr n out pos) {v u e : Nat} (h : Src n pos v e) (k : Src n pos u e) : v = u := by
  obtain ⟨h1, h2, h3⟩ := h
  obtain ⟨k1, k2, k3⟩ := k
  rcases Nat.lt_trichotomy v u with q | q | q
  · have := C.le (show v + 1 ≤ u by omega) (by omega); omega
  · exact q
  · have := C.le (show u + 1 ≤ v by omega) (by omega); omega
theorem ec_iff {u v : Nat} : EC n out pos u v ↔ ∃ e, Src n pos u e ∧ out e = v := by
  constructor
  · rintro ⟨h1, j, h2, h3⟩
    unfold degC at h2
    exact ⟨pos u + j, ⟨h1, by omega, by omega⟩, h3⟩
  · rintro ⟨e, ⟨h1, h2, h3⟩, h4⟩
    refine ⟨h1, e - pos u, by unfold degC; omega, ?_⟩
    unfold tgtC
    rw [show pos u + (e - pos u) = e by omega]
    exact h4

/-- How many of the k edges from a0 on lead to w. -/
def cnt (out : Nat → Nat) (a0 w : Nat) : Nat → Nat
  | 0 => 0
  | k + 1 => cnt out a0 w k + if out (a0 + k) = w then 1 else 0
theorem cnt_same {a0 k : Nat} : cnt out a0 (out (a0 + k)) (k + 1) = cnt out a0 (out (a0 + k)) k + 1 := by
  show _ + (if _ then 1 else 0) = _
  rw [if_pos rfl]
theorem cnt_other {a0 k w : Nat} (h : w ≠ out (a0 + k)) : cnt out a0 w (k + 1) = cnt out a0 w k := by
  show _ + (if _ then 1 else 0) = _
  rw [if_neg (fun q => h q.symm)]
  rfl
theorem cnt_mono {a0 w : Nat} {k : Nat} : ∀ {m : Nat}, k ≤ m → cnt out a0 w k ≤ cnt out a0 w m
  | 0, h => by rw [Nat.le_zero.1 h]; exact Nat.le_refl _
  | m + 1, h => by
    by_cases e : k = m + 1
    · rw [e]; exact Nat.le_refl _
    · have := cnt_mono (a0 := a0) (w := w) (show k ≤ m by omega)
      show _ ≤ cnt out a0 w m + _
      omega
theorem cnt_lt {a0 k m : Nat} (h : k < m) : cnt out a0 (out (a0 + k)) k < cnt out a0 (out (a0 + k)) m := by
  have h1 := cnt_mono (out := out) (a0 := a0) (w := out (a0 + k)) (show k + 1 ≤ m by omega)
  rw [cnt_same] at h1
  omega
theorem cnt_sum {a0 : Nat} : ∀ {k : Nat}, (∀ j, j < k → out (a0 + j) < n) → sumTo (fun w => cnt out a0 w k) n = k
  | 0, _ => by
    have : ∀ m, sumTo (fun w => cnt out a0 w 0) m = 0 := fun m => by
      induction m with
      | zero => rfl
      | succ m ih => show sumTo _ m + 0 = 0; rw [ih]
    exact this n
  | k + 1, h => by
    have ih := cnt_sum (a0 := a0) (k := k) (fun j hj => h j (by omega))
    have this : sumTo (fun w => cnt out a0 w (k + 1)) n + cnt out a0 (out (a0 + k)) k = sumTo (fun w => cnt out a0 w k) n + cnt out a0 (out (a0 + k)) (k + 1) :=
      sumTo_upd (f := fun w => cnt out a0 w (k + 1)) (g := fun w => cnt out a0 w k) (k := out (a0 + k)) (n := n) (h k (by omega)) (fun x hx => cnt_other hx)
    have e := cnt_same (out := out) (a0 := a0) (k := k)
    omega
/-- Where the reversed edges of w begin. -/
def rAt (out : Nat → Nat) (a0 K : Nat) (x : Nat) : Nat := sumTo (fun w => cnt out a0 w K) x
theorem rAt_succ {a0 K x : Nat} : rAt out a0 K (x + 1) = rAt out a0 K x + cnt out a0 x K := rfl
theorem rAt_mono {a0 K x : Nat} : ∀ {y : Nat}, x ≤ y → rAt out a0 K x ≤ rAt out a0 K y
  | 0, h => by rw [Nat.le_zero.1 h]; exact Nat.le_refl _
  | y + 1, h => by
    by_cases e : x = y + 1
    · rw [e]; exact Nat.le_refl _
    · have := rAt_mono (a0 := a0) (K := K) (show x ≤ y by omega)
      rw [rAt_succ]
      omega

/-- The reversed edges, k of them laid. -/
structure RI (n : Nat) (out pos : Nat → Nat) (a0 K k : Nat) (rev : Nat → Nat) : Prop where
  f1 : ∀ w p, w < n → rAt out a0 K w ≤ p → p < rAt out a0 K w + cnt out a0 w k → ∃ e, e < k ∧ out (a0 + e) = w ∧ Src n pos (rev p) (a0 + e)
  f2 : ∀ e v, e < k → Src n pos v (a0 + e) → ∃ p, rAt out a0 K (out (a0 + e)) ≤ p ∧ p < rAt out a0 K (out (a0 + e)) + cnt out a0 (out (a0 + e)) k ∧ rev p = v
theorem RI.start {a0 K : Nat} {rev : Nat → Nat} : RI n out pos a0 K 0 rev :=
  ⟨fun w p _ h1 h2 => by have : cnt out a0 w 0 = 0 := rfl; omega, fun e v h => by omega⟩
theorem RI.step (C : Csr n out pos) {a0 K k v : Nat} {rev : Nat → Nat} (I : RI n out pos a0 K k rev) (hk : k < K) (hw : out (a0 + k) < n) (hv : Src n pos v (a0 + k)) :
    RI n out pos a0 K (k + 1) (upd rev (rAt out a0 K (out (a0 + k)) + cnt out a0 (out (a0 + k)) k) v) := by
  have hlt := cnt_lt (out := out) (a0 := a0) hk
  -- another node's places do not hold the new one
  have apart : ∀ w p, w ≠ out (a0 + k) → rAt out a0 K w ≤ p → p < rAt out a0 K w + cnt out a0 w k → p ≠ rAt out a0 K (out (a0 + k)) + cnt out a0 (out (a0 + k)) k := fun w p hne h1 h2 e => by
    have h3 := cnt_mono (out := out) (a0 := a0) (w := w) (Nat.le_of_lt hk)
    have e1 := rAt_succ (out := out) (a0 := a0) (K := K) (x := w)
    have e2 := rAt_succ (out := out) (a0 := a0) (K := K) (x := out (a0 + k))
    rcases Nat.lt_trichotomy w (out (a0 + k)) with q | q | q
    · have := rAt_mono (out := out) (a0 := a0) (K := K) (show w + 1 ≤ out (a0 + k) by omega); omega
    · exact hne q
    · have := rAt_mono (out := out) (a0 := a0) (K := K) (show out (a0 + k) + 1 ≤ w by omega); omega
  refine ⟨fun w p hwn h1 h2 => ?_, fun e u he hu => ?_⟩
  · by_cases hww : w = out (a0 + k)
    · subst hww
      rw [cnt_same] at h2
      by_cases hp : p = rAt out a0 K (out (a0 + k)) + cnt out a0 (out (a0 + k)) k
      · rw [hp, upd_same]
        exact ⟨k, by omega, rfl, hv⟩
      · rw [upd_other _ _ hp]
        obtain ⟨e, h3, h4, h5⟩ := I.f1 _ p hwn h1 (by omega)
        exact ⟨e, by omega, h4, h5⟩
    · rw [cnt_other hww] at h2
      rw [upd_other _ _ (apart w p hww h1 h2)]
      obtain ⟨e, h3, h4, h5⟩ := I.f1 w p hwn h1 h2
      exact ⟨e, by omega, h4, h5⟩
  · by_cases hek : e = k
    · subst hek
      exact ⟨rAt out a0 K (out (a0 + e)) + cnt out a0 (out (a0 + e)) e, by omega, by rw [cnt_same]; omega, by rw [upd_same]; exact C.src_unique hv hu⟩
    · obtain ⟨p, h1, h2, h3⟩ := I.f2 e u (by omega) hu
      by_cases hww : out (a0 + e) = out (a0 + k)
      · rw [hww] at h1 h2 ⊢
        exact ⟨p, h1, by rw [cnt_same]; omega, by rw [upd_other _ _ (by omega)]; exact h3⟩
      · exact ⟨p, h1, by rw [cnt_other hww]; exact h2, by rw [upd_other _ _ (apart _ p hww h1 h2)]; exact h3⟩
/-- All are laid: the places of v hold its predecessors. -/
theorem RI.all (C : Csr n out pos) {K : Nat} {rev : Nat → Nat} (I : RI n out pos (pos 0) K K rev) (hK : pos 0 + K = pos n) {v u : Nat} (hv : v < n) :
    EC n out pos u v ↔ ∃ p, rAt out (pos 0) K v ≤ p ∧ p < rAt out (pos 0) K (v + 1) ∧ rev p = u := by
  rw [ec_iff]
  constructor
  · rintro ⟨e, hs, ho⟩
    obtain ⟨h1, h2, h3⟩ := hs
    have g1 := C.le (Nat.zero_le u) (Nat.le_of_lt h1)
    have g2 := C.le (show u + 1 ≤ n by omega) (Nat.le_refl n)
    have ee : pos 0 + (e - pos 0) = e := by omega
    obtain ⟨p, q1, q2, q3⟩ := I.f2 (e - pos 0) u (by omega) (by rw [ee]; exact ⟨h1, h2, h3⟩)
    rw [ee, ho] at q1 q2
    exact ⟨p, q1, by rw [rAt_succ]; exact q2, q3⟩
  · rintro ⟨p, h1, h2, rfl⟩
    rw [rAt_succ] at h2
    obtain ⟨e, _, h4, h5⟩ := I.f1 v p hv h1 h2
    exact ⟨_, h5, h4⟩
end Go.Proofs.Qxb6603020a.Pl
