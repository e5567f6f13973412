/-
  PLAIN: Kosaraju's two passes. No Go in sight.
-/
import Derived.Test.Qxb6603020aTarjan
namespace Go.Proofs.Qxb6603020a.Pl

/-! ### The first pass -/
structure KI (n : Nat) (deg : Nat → Nat) (tgt : Nat → Nat → Nat) (seen : Nat → Bool) (ord stk : List Nat) (nx : Nat → Nat) : Prop where
  sb : ∀ x ∈ stk, x < n
  ob : ∀ x ∈ ord, x < n
  so : ∀ x, x < n → (seen x = true ↔ x ∈ ord ∨ x ∈ stk)
  nd : (ord ++ stk).Nodup
  ch : stk.Pairwise (Reach (Ed n deg tgt))
  nb : ∀ v ∈ stk, nx v ≤ deg v
  eg : ∀ v ∈ stk, ∀ j, j < nx v → seen (tgt v j) = true
  eo : ∀ v ∈ ord, ∀ w, Ed n deg tgt v w → seen w = true
  p3 : ∀ k i j a b c : Nat, k ≤ i → i < j → ord[k]? = some a → ord[i]? = some b → ord[j]? = some c → Ed n deg tgt a c → Reach (Ed n deg tgt) c b
  gg : ∀ k i a b : Nat, k ≤ i → ord[k]? = some a → ord[i]? = some b → ∀ y ∈ stk, Ed n deg tgt a y → Reach (Ed n deg tgt) y b

variable {n : Nat} {deg : Nat → Nat} {tgt : Nat → Nat → Nat} {seen : Nat → Bool} {ord stk pre : List Nat} {nx : Nat → Nat} {v w : Nat}

theorem KI.start : KI n deg tgt (fun _ => false) [] [] nx :=
  ⟨fun _ h => (nomatch h), fun _ h => (nomatch h), fun _ _ => ⟨fun h => (nomatch h), fun h => by rcases h with h | h <;> cases h⟩, by simp, List.Pairwise.nil, fun _ h => (nomatch h), fun _ h => (nomatch h), fun _ h => (nomatch h),
   fun k i j a b c _ _ h => by simp at h, fun k i a b _ h => by simp at h⟩

/-- A new node is opened. -/
theorem KI.push (I : KI n deg tgt seen ord stk nx) (hw : w < n) (h0 : seen w = false) (nx' : Nat → Nat) (hnw : nx' w = 0)
    (hp : (stk = [] ∧ nx' = upd nx w 0) ∨ ∃ pre v, stk = pre ++ [v] ∧ nx v < deg v ∧ tgt v (nx v) = w ∧ v ≠ w ∧ nx' = upd (upd nx v (nx v + 1)) w 0) :
    KI n deg tgt (upd seen w true) ord (stk ++ [w]) nx' := by
  have hns : w ∉ stk := fun h => by have := (I.so w hw).2 (.inr h); rw [h0] at this; cases this
  have hno : w ∉ ord := fun h => by have := (I.so w hw).2 (.inl h); rw [h0] at this; cases this
  have neg : ∀ x, x ∈ stk → x ≠ w := fun x h e => hns (e ▸ h)
  have mono : ∀ x, seen x = true → upd seen w true x = true := fun x h => by
    by_cases e : x = w
    · rw [e, upd_same]
    · rw [upd_other _ _ e]; exact h
  refine ⟨?_, I.ob, ?_, ?_, ?_, ?_, ?_, fun v hv y hy => mono y (I.eo v hv y hy), I.p3, ?_⟩
  · intro x hx
    rcases List.mem_append.1 hx with q | q
    · exact I.sb x q
    · rw [List.mem_singleton.1 q]; exact hw
  · intro x hx
    by_cases e : x = w
    · subst e
      rw [upd_same]
      exact ⟨fun _ => .inr (by simp), fun _ => rfl⟩
    · rw [upd_other _ _ e, I.so x hx]
      constructor
      · rintro (q | q)
        · exact .inl q
        · exact .inr (List.mem_append.2 (.inl q))
      · rintro (q | q)
        · exact .inl q
        · rcases List.mem_append.1 q with q | q
          · exact .inr q
          · exact absurd (List.mem_singleton.1 q) e
  · rw [← List.append_assoc]
    refine List.nodup_append.2 ⟨I.nd, by simp, fun a ha b hb e => ?_⟩
    rw [List.mem_singleton.1 hb] at e
    subst e
    rcases List.mem_append.1 ha with q | q
    · exact hno q
    · exact hns q
  · rw [List.pairwise_append]
    refine ⟨I.ch, by simp, fun a ha b hb => ?_⟩
    rw [List.mem_singleton.1 hb]
    rcases hp with ⟨rfl, _⟩ | ⟨pre, v, rfl, hlt, ht, hvw, _⟩
    · cases ha
    · have hvn : v < n := I.sb v (by simp)
      have hav : Reach (Ed n deg tgt) a v := by
        rcases List.mem_append.1 ha with q | q
        · exact (List.pairwise_append.1 I.ch).2.2 a q v (by simp)
        · rw [List.mem_singleton.1 q]; exact Reach.refl _
      exact hav.tail ⟨hvn, nx v, hlt, ht⟩
  · intro x hx
    rcases List.mem_append.1 hx with q | q
    · rcases hp with ⟨rfl, _⟩ | ⟨pre, v, rfl, hlt, ht, hvw, rfl⟩
      · cases q
      · rw [upd_other _ _ (neg x q)]
        by_cases e : x = v
        · subst e; rw [upd_same]; omega
        · rw [upd_other _ _ e]; exact I.nb x q
    · rw [List.mem_singleton.1 q, hnw]; omega
  · intro x hx j hj
    rcases List.mem_append.1 hx with q | q
    · by_cases hold : j < nx x
      · exact mono _ (I.eg x q j hold)
      · rcases hp with ⟨rfl, _⟩ | ⟨pre, v, rfl, hlt, ht, hvw, rfl⟩
        · cases q
        · rw [upd_other _ _ (neg x q)] at hj
          by_cases e : x = v
          · subst e
            rw [upd_same] at hj
            have : j = nx x := by omega
            rw [this, ht, upd_same]
          · rw [upd_other _ _ e] at hj; omega
    · rw [List.mem_singleton.1 q, hnw] at hj; omega
  · intro k i a b hki ha hb y hy he
    rcases List.mem_append.1 hy with q | q
    · exact I.gg k i a b hki ha hb y q he
    · rw [List.mem_singleton.1 q] at he
      have := I.eo a (List.mem_of_getElem? ha) w he
      rw [h0] at this
      cases this

/-- The last open node's next edge leads to a node that was seen. -/
theorem KI.next (I : KI n deg tgt seen ord stk nx) (hd : nx v < deg v) (hw : seen (tgt v (nx v)) = true) : KI n deg tgt seen ord stk (upd nx v (nx v + 1)) := by
  refine ⟨I.sb, I.ob, I.so, I.nd, I.ch, ?_, ?_, I.eo, I.p3, I.gg⟩
  · intro x hx
    by_cases e : x = v
    · subst e; rw [upd_same]; omega
    · rw [upd_other _ _ e]; exact I.nb x hx
  · intro x hx j hj
    by_cases e : x = v
    · subst e
      rw [upd_same] at hj
      by_cases ej : j = nx x
      · rw [ej]; exact hw
      · exact I.eg x hx j (by omega)
    · rw [upd_other _ _ e] at hj; exact I.eg x hx j hj

/-- The last open node is finished. -/
theorem KI.pop (I : KI n deg tgt seen ord (pre ++ [v]) nx) (hn : nx v = deg v) : KI n deg tgt seen (ord ++ [v]) pre nx := by
  have hv : v ∈ pre ++ [v] := by simp
  have below : ∀ y, y ∈ pre → Reach (Ed n deg tgt) y v := fun y hy => (List.pairwise_append.1 I.ch).2.2 y hy v (by simp)
  have get : ∀ (k a : Nat), (ord ++ [v])[k]? = some a → (k < ord.length ∧ ord[k]? = some a) ∨ (k = ord.length ∧ a = v) := fun k a h => by
    by_cases hk : k < ord.length
    · rw [List.getElem?_append_left hk] at h; exact .inl ⟨hk, h⟩
    · rw [List.getElem?_append_right (by omega)] at h
      by_cases e : k - ord.length = 0
      · rw [e] at h; simp at h; exact .inr ⟨by omega, h.symm⟩
      · rw [List.getElem?_eq_none (by simp; omega)] at h; cases h
  refine ⟨fun x hx => I.sb x (List.mem_append.2 (.inl hx)), ?_, ?_, ?_, (List.pairwise_append.1 I.ch).1, fun x hx => I.nb x (List.mem_append.2 (.inl hx)), fun x hx => I.eg x (List.mem_append.2 (.inl hx)), ?_, ?_, ?_⟩
  · intro x hx
    rcases List.mem_append.1 hx with q | q
    · exact I.ob x q
    · rw [List.mem_singleton.1 q]; exact I.sb v hv
  · intro x hx
    rw [I.so x hx]
    simp only [List.mem_append, List.mem_singleton]
    constructor
    · rintro (q | q | q)
      · exact .inl (.inl q)
      · exact .inr q
      · exact .inl (.inr q)
    · rintro ((q | q) | q)
      · exact .inl q
      · exact .inr (.inr q)
      · exact .inr (.inl q)
  · have h := I.nd
    have e : (ord ++ [v] ++ pre).Perm (ord ++ (pre ++ [v])) := by
      rw [List.append_assoc]
      exact List.Perm.append_left _ List.perm_append_comm
    exact e.nodup_iff.2 h
  · intro x hx y hy
    rcases List.mem_append.1 hx with q | q
    · exact I.eo x q y hy
    · rw [List.mem_singleton.1 q] at hy
      obtain ⟨_, j, hj, ht⟩ := hy
      rw [← ht]
      exact I.eg v hv j (by omega)
  · intro k i j a b c hki hij ha hb hc he
    rcases get k a ha with ⟨k1, k2⟩ | ⟨k1, k2⟩
    · rcases get i b hb with ⟨i1, i2⟩ | ⟨i1, i2⟩
      · rcases get j c hc with ⟨j1, j2⟩ | ⟨j1, j2⟩
        · exact I.p3 k i j a b c hki hij k2 i2 j2 he
        · subst j2
          exact I.gg k i a b hki k2 i2 c hv he
      · rcases get j c hc with ⟨j1, _⟩ | ⟨j1, _⟩ <;> omega
    · rcases get i b hb with ⟨i1, _⟩ | ⟨i1, _⟩
      · omega
      · rcases get j c hc with ⟨j1, _⟩ | ⟨j1, _⟩ <;> omega
  · intro k i a b hki ha hb y hy he
    rcases get i b hb with ⟨i1, i2⟩ | ⟨i1, i2⟩
    · rcases get k a ha with ⟨k1, k2⟩ | ⟨k1, k2⟩
      · exact I.gg k i a b hki k2 i2 y (List.mem_append.2 (.inl hy)) he
      · omega
    · subst i2
      exact below y hy

/-! ### The second pass -/
/-- x comes to 'root' over nodes of U. -/
def PU (U : Nat → Prop) (E : Nat → Nat → Prop) (root x : Nat) : Prop := ∀ S : Nat → Prop, S root → (∀ a b, U a → E a b → S b → S a) → S x
theorem PU.root {U : Nat → Prop} {E : Nat → Nat → Prop} {root : Nat} : PU U E root root := fun _ h _ => h
theorem PU.step {U : Nat → Prop} {E : Nat → Nat → Prop} {root a b : Nat} (ha : U a) (e : E a b) (h : PU U E root b) : PU U E root a := fun S hr hS => hS a b ha e (h S hr hS)
theorem PU.reach {U : Nat → Prop} {E : Nat → Nat → Prop} {root x : Nat} (h : PU U E root x) : Reach E x root := h (fun z => Reach E z root) (Reach.refl _) (fun _ _ _ e k => Reach.head e k)
theorem PU.inU {U : Nat → Prop} {E : Nat → Nat → Prop} {root x : Nat} (h : PU U E root x) (hr : U root) : U x := h U hr (fun _ _ ha _ _ => ha)

/-- WHERE THE ORDER IS THE FIRST PASS's: whatever comes to the last unmarked node over unmarked nodes is reached from it. -/
theorem PU.from {E : Nat → Nat → Prop} {U : Nat → Prop} {root i : Nat} (hord : ∀ x, U x → ∃ k, k ≤ i ∧ ord[k]? = some x) (hi : ord[i]? = some root) (hnd : ord.Nodup) (hroot : U root)
    (p3 : ∀ k i j a b c : Nat, k ≤ i → i < j → ord[k]? = some a → ord[i]? = some b → ord[j]? = some c → E a c → Reach E c b) :
    ∀ (d k x : Nat), i ≤ k + d → ord[k]? = some x → PU U E root x → Reach E root x := by
  have uniq : ∀ (k j x : Nat), ord[k]? = some x → ord[j]? = some x → k = j := fun k j x hk hj => by
    obtain ⟨h1, e1⟩ := List.getElem?_eq_some_iff.1 hk
    obtain ⟨h2, e2⟩ := List.getElem?_eq_some_iff.1 hj
    have pw := List.pairwise_iff_getElem.1 hnd
    rcases Nat.lt_trichotomy k j with q | q | q
    · exact absurd (e1.trans e2.symm) (pw k j h1 h2 q)
    · exact q
    · exact absurd (e2.trans e1.symm) (pw j k h2 h1 q)
  have claim : ∀ x, PU U E root x → ∀ k, ord[k]? = some x → ∀ t b, k ≤ t → t < i → ord[t]? = some b → ∃ j y, t < j ∧ j ≤ i ∧ ord[j]? = some y ∧ PU U E root y ∧ Reach E y b := fun x hx => by
    have := hx (fun x => PU U E root x ∧ ∀ k, ord[k]? = some x → ∀ t b, k ≤ t → t < i → ord[t]? = some b → ∃ j y, t < j ∧ j ≤ i ∧ ord[j]? = some y ∧ PU U E root y ∧ Reach E y b)
      ⟨PU.root, fun k hk t b hkt hti hb => by have := uniq k i root hk hi; omega⟩
      (fun a b' ha e ⟨hpb, hb'⟩ => ⟨PU.step ha e hpb, fun k hk t b hkt hti hb => by
        obtain ⟨k', hk', hb2⟩ := hord b' (hpb.inU hroot)
        by_cases h : k' ≤ t
        · exact hb' k' hb2 t b h hti hb
        · exact ⟨k', b', by omega, hk', hb2, hpb, p3 k t k' a b b' hkt (by omega) hk hb hb2 e⟩⟩)
    exact this.2
  intro d
  induction d with
  | zero =>
    intro k x hk hx hp
    obtain ⟨k', hk', hx'⟩ := hord x (hp.inU hroot)
    have := uniq k k' x hx hx'
    have e : k = i := by omega
    subst e
    rw [hi] at hx
    cases hx
    exact Reach.refl _
  | succ d ih =>
    intro k x hk hx hp
    by_cases e : i ≤ k
    · obtain ⟨k', hk', hx'⟩ := hord x (hp.inU hroot)
      have := uniq k k' x hx hx'
      have e' : k = i := by omega
      subst e'
      rw [hi] at hx
      cases hx
      exact Reach.refl _
    · obtain ⟨j, y, h1, h2, h3, h4, h5⟩ := claim x hp k hx k x (Nat.le_refl _) (by omega) hx
      exact (ih j y (by omega) h3 h4).trans h5

/-- What holds between two roots of the second pass: 'done' is a union of components, and 'lo' is the lowest so far. -/
structure K2 (n : Nat) (E : Nat → Nat → Prop) (done : Nat → Bool) (lo : Int) : Prop where
  un : ∀ x y, done x = true → Reach E x y → Reach E y x → done y = true
  lw : Low E (fun x => done x = true) lo
  bd : ∀ x, done x = true → x < n

/-- What holds while the nodes behind a root are gathered. D0: what was done before; P: taken off the stack; s: still on it. -/
structure K3 (n : Nat) (E : Nat → Nat → Prop) (D0 : Nat → Bool) (root : Nat) (done : Nat → Bool) (P s : List Nat) : Prop where
  old : ∀ x, D0 x = true → done x = true
  col : ∀ x, done x = true → D0 x = true ∨ x ∈ P ∨ x ∈ s
  isd : ∀ x, x ∈ P ∨ x ∈ s → done x = true ∧ D0 x = false ∧ x < n ∧ PU (fun z => z < n ∧ D0 z = false) E root x
  nd : (P ++ s).Nodup
  rt : root ∈ P ∨ root ∈ s

variable {E : Nat → Nat → Prop} {D0 done : Nat → Bool} {root : Nat} {P s : List Nat} {lo : Int}

theorem K3.start (hr : root < n) (h0 : D0 root = false) : K3 n E D0 root (upd D0 root true) [] [root] := by
  refine ⟨fun x h => ?_, fun x h => ?_, fun x h => ?_, by simp, .inr (by simp)⟩
  · by_cases e : x = root
    · rw [e, upd_same]
    · rw [upd_other _ _ e]; exact h
  · by_cases e : x = root
    · exact .inr (.inr (by simp [e]))
    · rw [upd_other _ _ e] at h; exact .inl h
  · rcases h with h | h
    · cases h
    · rw [List.mem_singleton.1 h]
      exact ⟨upd_same _ _ _, h0, hr, PU.root⟩
/-- A node is taken off the stack. -/
theorem K3.pop (I : K3 n E D0 root done P (s ++ [v])) : K3 n E D0 root done (P ++ [v]) s := by
  refine ⟨I.old, fun x h => ?_, fun x h => ?_, ?_, ?_⟩
  · rcases I.col x h with q | q | q
    · exact .inl q
    · exact .inr (.inl (List.mem_append.2 (.inl q)))
    · rcases List.mem_append.1 q with q | q
      · exact .inr (.inr q)
      · exact .inr (.inl (List.mem_append.2 (.inr q)))
  · refine I.isd x ?_
    rcases h with q | q
    · rcases List.mem_append.1 q with q | q
      · exact .inl q
      · exact .inr (List.mem_append.2 (.inr q))
    · exact .inr (List.mem_append.2 (.inl q))
  · have e : (P ++ [v] ++ s).Perm (P ++ (s ++ [v])) := by
      rw [List.append_assoc]
      exact List.Perm.append_left _ List.perm_append_comm
    exact e.nodup_iff.2 I.nd
  · rcases I.rt with q | q
    · exact .inl (List.mem_append.2 (.inl q))
    · rcases List.mem_append.1 q with q | q
      · exact .inr q
      · exact .inl (List.mem_append.2 (.inr q))
/-- A predecessor of a node that was taken off, not yet marked, is marked and laid on the stack. -/
theorem K3.push {u : Nat} (I : K3 n E D0 root done P s) (hu : u < n) (h0 : done u = false) (hv : v ∈ P) (e : E u v) : K3 n E D0 root (upd done u true) P (s ++ [u]) := by
  have hd0 : D0 u = false := by
    cases h : D0 u with
    | false => rfl
    | true => rw [I.old u h] at h0; cases h0
  have hne : ∀ x, x ∈ P ∨ x ∈ s → x ≠ u := fun x h q => by have := (I.isd x h).1; rw [q, h0] at this; cases this
  refine ⟨fun x h => ?_, fun x h => ?_, fun x h => ?_, ?_, ?_⟩
  · by_cases q : x = u
    · rw [q, upd_same]
    · rw [upd_other _ _ q]; exact I.old x h
  · by_cases q : x = u
    · exact .inr (.inr (by simp [q]))
    · rw [upd_other _ _ q] at h
      rcases I.col x h with r | r | r
      · exact .inl r
      · exact .inr (.inl r)
      · exact .inr (.inr (List.mem_append.2 (.inl r)))
  · have old : ∀ x, x ∈ P ∨ x ∈ s → upd done u true x = true ∧ D0 x = false ∧ x < n ∧ PU (fun z => z < n ∧ D0 z = false) E root x := fun x h => by
      rw [upd_other _ _ (hne x h)]; exact I.isd x h
    rcases h with q | q
    · exact old x (.inl q)
    · rcases List.mem_append.1 q with q | q
      · exact old x (.inr q)
      · rw [List.mem_singleton.1 q]
        exact ⟨upd_same _ _ _, hd0, hu, PU.step ⟨hu, hd0⟩ e (I.isd v (.inl hv)).2.2.2⟩
  · rw [← List.append_assoc]
    refine List.nodup_append.2 ⟨I.nd, by simp, fun a ha b hb q => ?_⟩
    rw [List.mem_singleton.1 hb] at q
    exact hne a (List.mem_append.1 ha) q
  · rcases I.rt with q | q
    · exact .inl q
    · exact .inr (List.mem_append.2 (.inl q))

/-- The stack is empty and all predecessors were looked at: what was gathered is the root's component. -/
theorem K3.all (I : K3 n E D0 root done P []) (hcl : ∀ x ∈ P, ∀ u, E u x → done u = true) (K : K2 n E D0 lo)
    (hfr : ∀ x, PU (fun z => z < n ∧ D0 z = false) E root x → Reach E root x) :
    (∀ x ∈ P, Reach E root x ∧ Reach E x root) ∧ (∀ y, Reach E root y → Reach E y root → y ∈ P) ∧ (∀ x, done x = true ↔ D0 x = true ∨ x ∈ P) := by
  have hrP : root ∈ P := by
    rcases I.rt with q | q
    · exact q
    · cases q
  have hr := I.isd root (.inl hrP)
  refine ⟨fun x hx => ?_, fun y h1 h2 => ?_, fun x => ⟨fun h => ?_, fun h => ?_⟩⟩
  · have := (I.isd x (.inl hx)).2.2.2
    exact ⟨hfr x this, this.reach⟩
  · have := h2.back (D := fun z => Reach E root z → z ∈ P) (fun a b e hb ha => by
      have hbP := hb (ha.tail e)
      rcases I.col a (hcl b hbP a e) with q | q | q
      · have hroot : D0 root = true := K.un a root q (Reach.head e (I.isd b (.inl hbP)).2.2.2.reach) ha
        rw [hr.2.1] at hroot
        cases hroot
      · exact q
      · cases q) (fun _ => hrP)
    exact this h1
  · rcases I.col x h with q | q | q
    · exact .inl q
    · exact .inr q
    · cases q
  · rcases h with q | q
    · exact I.old x q
    · exact (I.isd x (.inl q)).1
/-- The next root's state, the lowest node being told apart. -/
theorem K3.next (I : K3 n E D0 root done P []) (hcl : ∀ x ∈ P, ∀ u, E u x → done u = true) (K : K2 n E D0 lo)
    (hfr : ∀ x, PU (fun z => z < n ∧ D0 z = false) E root x → Reach E root x) {lo' : Int} (hlo : Low E (fun x => done x = true) lo') : K2 n E done lo' := by
  obtain ⟨h1, h2, h3⟩ := I.all hcl K hfr
  refine ⟨fun x y hx hxy hyx => ?_, hlo, fun x hx => ?_⟩
  · rcases (h3 x).1 hx with q | q
    · exact (h3 y).2 (.inl (K.un x y q hxy hyx))
    · exact (h3 y).2 (.inr (h2 y ((h1 x q).1.trans hxy) (hyx.trans (h1 x q).2)))
  · rcases (h3 x).1 hx with q | q
    · exact K.bd x q
    · exact (I.isd x (.inl q)).2.2.1
theorem K2.start : K2 n E (fun _ => false) (-1) := ⟨fun _ _ h => (nomatch h), .inl ⟨rfl, fun _ h => (nomatch h)⟩, fun _ h => (nomatch h)⟩
end Go.Proofs.Qxb6603020a.Pl
