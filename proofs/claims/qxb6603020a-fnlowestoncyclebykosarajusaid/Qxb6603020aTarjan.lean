/-
  PLAIN: what Tarjan's algorithm without recursion keeps, step by step. No Go in sight.
-/
import Derived.Test.Qxb6603020aGraph
namespace Go.Proofs.Qxb6603020a.Pl

/-- The edges of a graph whose node v has deg v targets tgt v j. -/
def Ed (n : Nat) (deg : Nat → Nat) (tgt : Nat → Nat → Nat) (v w : Nat) : Prop := v < n ∧ ∃ j, j < deg v ∧ tgt v j = w

/-- Visited, and no longer on the stack. -/
def Dn (idx : Nat → Nat) (stack : List Nat) (x : Nat) : Prop := 0 < idx x ∧ x ∉ stack
/-- g is the last open node at or below x. -/
def Seg (idx : Nat → Nat) (gr : List Nat) (g x : Nat) : Prop := idx g ≤ idx x ∧ ∀ g' ∈ gr, idx g' ≤ idx x → idx g' ≤ idx g

structure TI (n : Nat) (deg : Nat → Nat) (tgt : Nat → Nat → Nat) (idx low nx : Nat → Nat) (stack gr : List Nat) (vis : Nat) : Prop where
  sn : ∀ x ∈ stack, x < n
  si : stack.Pairwise (fun a b => idx a < idx b)
  sp : ∀ x ∈ stack, 0 < idx x
  iv : ∀ x, idx x ≤ vis
  gs : ∀ v ∈ gr, v ∈ stack ∧ nx v ≤ deg v
  gi : gr.Pairwise (fun a b => idx a < idx b)
  s1 : ∀ x ∈ stack, ∀ y ∈ stack, idx x ≤ idx y → Reach (Ed n deg tgt) x y
  s2 : ∀ x ∈ stack, ∃ g ∈ gr, idx g ≤ idx x ∧ Reach (Ed n deg tgt) x g
  ll : ∀ v ∈ gr, low v ≤ idx v ∧ ∃ u ∈ stack, idx u = low v ∧ Reach (Ed n deg tgt) v u
  dc : ∀ x, Dn idx stack x → ∀ w, Ed n deg tgt x w → Dn idx stack w
  eg : ∀ v ∈ gr, ∀ j, j < nx v → Dn idx stack (tgt v j) ∨ (tgt v j ∈ stack ∧ low v ≤ idx (tgt v j))
  eb : ∀ x ∈ stack, x ∉ gr → ∀ w, Ed n deg tgt x w → Dn idx stack w ∨ (w ∈ stack ∧ ∀ g ∈ gr, Seg idx gr g x → low g ≤ idx w)

variable {n : Nat} {deg : Nat → Nat} {tgt : Nat → Nat → Nat} {idx low nx : Nat → Nat} {stack gr pre : List Nat} {vis v w : Nat}

theorem pw_mem {f : Nat → Nat} : ∀ {l : List Nat}, l.Pairwise (fun a b => f a < f b) → ∀ x ∈ l, ∀ y ∈ l, x = y ∨ f x < f y ∨ f y < f x
  | [], _, x, hx, _, _ => by cases hx
  | a :: l, h, x, hx, y, hy => by
    rw [List.pairwise_cons] at h
    rcases List.mem_cons.1 hx with e | hx'
    · rcases List.mem_cons.1 hy with e' | hy'
      · exact .inl (e.trans e'.symm)
      · exact .inr (.inl (by rw [e]; exact h.1 y hy'))
    · rcases List.mem_cons.1 hy with e' | hy'
      · exact .inr (.inr (by rw [e']; exact h.1 x hx'))
      · exact pw_mem h.2 x hx' y hy'
theorem pw_inj {f : Nat → Nat} {l : List Nat} (h : l.Pairwise (fun a b => f a < f b)) {x y : Nat} (hx : x ∈ l) (hy : y ∈ l) (e : f x = f y) : x = y := by
  rcases pw_mem h x hx y hy with q | q | q
  · exact q
  · omega
  · omega
theorem pw_congr {f g : Nat → Nat} {l : List Nat} (h : l.Pairwise (fun a b => f a < f b)) (e : ∀ x ∈ l, f x = g x) : l.Pairwise (fun a b => g a < g b) :=
  List.Pairwise.imp_of_mem (fun ha hb hab => by rw [← e _ ha, ← e _ hb]; exact hab) h
theorem pw_last {f : Nat → Nat} {l : List Nat} {v : Nat} (h : (l ++ [v]).Pairwise (fun a b => f a < f b)) : ∀ x ∈ l, f x < f v := by
  rw [List.pairwise_append] at h
  exact fun x hx => h.2.2 x hx v (by simp)
theorem pw_snoc {f : Nat → Nat} {l : List Nat} {v : Nat} (h : l.Pairwise (fun a b => f a < f b)) (hv : ∀ x ∈ l, f x < f v) : (l ++ [v]).Pairwise (fun a b => f a < f b) := by
  rw [List.pairwise_append]
  exact ⟨h, by simp, fun a ha b hb => by rw [List.mem_singleton] at hb; subst hb; exact hv a ha⟩
theorem pw_pre {f : Nat → Nat} {l k : List Nat} (h : (l ++ k).Pairwise (fun a b => f a < f b)) : l.Pairwise (fun a b => f a < f b) := (List.pairwise_append.1 h).1

/-- Nothing is open: nothing is on the stack. -/
theorem TI.empty (I : TI n deg tgt idx low nx stack [] vis) : stack = [] := by
  cases stack with
  | nil => rfl
  | cons x l =>
    obtain ⟨g, hg, _⟩ := I.s2 x (by simp)
    cases hg

/-- The first state. -/
theorem TI.start : TI n deg tgt (fun _ => 0) low nx [] [] 0 :=
  ⟨fun _ h => (nomatch h), List.Pairwise.nil, fun _ h => (nomatch h), fun _ => Nat.le_refl _, fun _ h => (nomatch h), List.Pairwise.nil, fun _ h => (nomatch h), fun _ h => (nomatch h), fun _ h => (nomatch h),
   fun _ h => absurd h.1 (Nat.lt_irrefl 0), fun _ h => (nomatch h), fun _ h => (nomatch h)⟩

/-- A new node is opened, from the last open one by its next edge, or where nothing is open. -/
theorem TI.visit (I : TI n deg tgt idx low nx stack gr vis) (hw : w < n) (h0 : idx w = 0) (nx' : Nat → Nat) (hnw : nx' w = 0)
    (hp : (gr = [] ∧ nx' = upd nx w 0) ∨ ∃ pre v, gr = pre ++ [v] ∧ nx v < deg v ∧ tgt v (nx v) = w ∧ v ≠ w ∧ nx' = upd (upd nx v (nx v + 1)) w 0) :
    TI n deg tgt (upd idx w (vis + 1)) (upd low w (vis + 1)) nx' (stack ++ [w]) (gr ++ [w]) (vis + 1) := by
  have hws : w ∉ stack := fun h => by have := I.sp w h; omega
  have hwg : w ∉ gr := fun h => hws (I.gs w h).1
  have ne : ∀ x, x ∈ stack → x ≠ w := fun x h e => hws (e ▸ h)
  have neg : ∀ x, x ∈ gr → x ≠ w := fun x h e => hwg (e ▸ h)
  have ei : ∀ x, x ∈ stack → upd idx w (vis + 1) x = idx x := fun x h => upd_other _ _ (ne x h)
  have el : ∀ x, x ∈ gr → upd low w (vis + 1) x = low x := fun x h => upd_other _ _ (neg x h)
  have eig : ∀ x, x ∈ gr → upd idx w (vis + 1) x = idx x := fun x h => upd_other _ _ (neg x h)
  have ew : upd idx w (vis + 1) w = vis + 1 := upd_same _ _ _
  have elw : upd low w (vis + 1) w = vis + 1 := upd_same _ _ _
  have dn : ∀ x, Dn idx stack x → Dn (upd idx w (vis + 1)) (stack ++ [w]) x := fun x h => by
    have hx : x ≠ w := fun e => by rw [e] at h; have := h.1; omega
    refine ⟨by rw [upd_other _ _ hx]; exact h.1, fun q => ?_⟩
    rcases List.mem_append.1 q with q | q
    · exact h.2 q
    · exact hx (List.mem_singleton.1 q)
  have dn' : ∀ x, Dn (upd idx w (vis + 1)) (stack ++ [w]) x → Dn idx stack x := fun x h => by
    have hx : x ≠ w := fun e => h.2 (by rw [e]; simp)
    have := h.1
    rw [upd_other _ _ hx] at this
    exact ⟨this, fun q => h.2 (List.mem_append.2 (.inl q))⟩
  -- every stack node reaches the new one
  have rw_ : ∀ x, x ∈ stack → Reach (Ed n deg tgt) x w := fun x hx => by
    rcases hp with ⟨rfl, _⟩ | ⟨pre, v, rfl, hlt, ht, hvw, _⟩
    · rw [I.empty] at hx
      cases hx
    · obtain ⟨g, hg, hgi, hgr⟩ := I.s2 x hx
      have hv := I.gs v (by simp)
      have hgv : idx g ≤ idx v := by
        rcases List.mem_append.1 hg with q | q
        · have := pw_last I.gi g q; omega
        · rw [List.mem_singleton.1 q]; exact Nat.le_refl _
      exact (hgr.trans (I.s1 g (I.gs g hg).1 v hv.1 hgv)).tail ⟨I.sn v hv.1, nx v, hlt, ht⟩
  have nxg : ∀ x, x ∈ gr → nx' x ≤ deg x := fun x hx => by
    rcases hp with ⟨rfl, _⟩ | ⟨pre, v, rfl, hlt, ht, hvw, rfl⟩
    · cases hx
    · rw [upd_other _ _ (neg x hx)]
      by_cases e : x = v
      · subst e; rw [upd_same]; omega
      · rw [upd_other _ _ e]; exact (I.gs x hx).2
  refine ⟨?_, ?_, ?_, ?_, ?_, ?_, ?_, ?_, ?_, ?_, ?_, ?_⟩
  · intro x hx
    rcases List.mem_append.1 hx with q | q
    · exact I.sn x q
    · rw [List.mem_singleton.1 q]; exact hw
  · refine pw_snoc (pw_congr I.si (fun x hx => (ei x hx).symm)) (fun x hx => ?_)
    rw [ei x hx, ew]; have := I.iv x; omega
  · intro x hx
    rcases List.mem_append.1 hx with q | q
    · rw [ei x q]; exact I.sp x q
    · rw [List.mem_singleton.1 q, ew]; omega
  · intro x
    by_cases e : x = w
    · rw [e, ew]; exact Nat.le_refl _
    · rw [upd_other _ _ e]; have := I.iv x; omega
  · intro x hx
    rcases List.mem_append.1 hx with q | q
    · exact ⟨List.mem_append.2 (.inl (I.gs x q).1), nxg x q⟩
    · rw [List.mem_singleton.1 q]; exact ⟨by simp, by rw [hnw]; omega⟩
  · refine pw_snoc (pw_congr I.gi (fun x hx => (eig x hx).symm)) (fun x hx => ?_)
    rw [eig x hx, ew]; have := I.iv x; omega
  · intro x hx y hy hxy
    rcases List.mem_append.1 hx with q | q
    · rcases List.mem_append.1 hy with r | r
      · rw [ei x q, ei y r] at hxy; exact I.s1 x q y r hxy
      · rw [List.mem_singleton.1 r]; exact rw_ x q
    · rw [List.mem_singleton.1 q] at hxy ⊢
      rcases List.mem_append.1 hy with r | r
      · rw [ew, ei y r] at hxy; have := I.iv y; omega
      · rw [List.mem_singleton.1 r]; exact Reach.refl _
  · intro x hx
    rcases List.mem_append.1 hx with q | q
    · obtain ⟨g, hg, h1, h2⟩ := I.s2 x q
      exact ⟨g, List.mem_append.2 (.inl hg), by rw [eig g hg, ei x q]; exact h1, h2⟩
    · rw [List.mem_singleton.1 q]; exact ⟨w, by simp, Nat.le_refl _, Reach.refl _⟩
  · intro x hx
    rcases List.mem_append.1 hx with q | q
    · obtain ⟨h1, u, hu, h2, h3⟩ := I.ll x q
      exact ⟨by rw [el x q, eig x q]; exact h1, u, List.mem_append.2 (.inl hu), by rw [ei u hu, el x q]; exact h2, h3⟩
    · rw [List.mem_singleton.1 q]; exact ⟨by rw [elw, ew]; exact Nat.le_refl _, w, by simp, by rw [ew, elw], Reach.refl _⟩
  · intro x hx y hy
    exact dn y (I.dc x (dn' x hx) y hy)
  · intro x hx j hj
    rcases List.mem_append.1 hx with q | q
    · by_cases hold : j < nx x
      · rcases I.eg x q j hold with h | ⟨h1, h2⟩
        · exact .inl (dn _ h)
        · exact .inr ⟨List.mem_append.2 (.inl h1), by rw [el x q, ei _ h1]; exact h2⟩
      · rcases hp with ⟨rfl, _⟩ | ⟨pre, v, rfl, hlt, ht, hvw, rfl⟩
        · cases q
        · rw [upd_other _ _ (neg x q)] at hj
          by_cases e : x = v
          · subst e
            rw [upd_same] at hj
            have : j = nx x := by omega
            rw [this, ht]
            exact .inr ⟨by simp, by rw [el x q, ew]; have h1 := (I.ll x q).1; have := I.iv x; omega⟩
          · rw [upd_other _ _ e] at hj; omega
    · rw [List.mem_singleton.1 q, hnw] at hj; omega
  · intro x hx hng y hy
    have hxg : x ∉ gr := fun q => hng (List.mem_append.2 (.inl q))
    rcases List.mem_append.1 hx with q | q
    · rcases I.eb x q hxg y hy with h | ⟨h1, h2⟩
      · exact .inl (dn _ h)
      · refine .inr ⟨List.mem_append.2 (.inl h1), fun g hg hs => ?_⟩
        rcases List.mem_append.1 hg with r | r
        · rw [el g r, ei y h1]
          refine h2 g r ⟨?_, fun g' hg' hle => ?_⟩
          · have := hs.1; rw [eig g r, ei x q] at this; exact this
          · have := hs.2 g' (List.mem_append.2 (.inl hg')) (by rw [eig g' hg', ei x q]; exact hle)
            rw [eig g' hg', eig g r] at this
            exact this
        · have := hs.1
          rw [List.mem_singleton.1 r, ew, ei x q] at this
          have := I.iv x
          omega
    · exact absurd (List.mem_append.2 (.inr q)) hng

/-- An open node's low goes down to another stack node that it reaches. -/
theorem TI.lower (I : TI n deg tgt idx low nx stack gr vis) {l : Nat} (hl : l ≤ low v) (hu : ∃ u ∈ stack, idx u = l ∧ Reach (Ed n deg tgt) v u) : TI n deg tgt idx (upd low v l) nx stack gr vis := by
  have le : ∀ x, upd low v l x ≤ low x := fun x => by
    by_cases e : x = v
    · subst e; rw [upd_same]; exact hl
    · rw [upd_other _ _ e]; exact Nat.le_refl _
  refine ⟨I.sn, I.si, I.sp, I.iv, I.gs, I.gi, I.s1, I.s2, ?_, I.dc, ?_, ?_⟩
  · intro x hx
    obtain ⟨h1, h2⟩ := I.ll x hx
    refine ⟨Nat.le_trans (le x) h1, ?_⟩
    by_cases e : x = v
    · subst e; rw [upd_same]; exact hu
    · rw [upd_other _ _ e]; exact h2
  · intro x hx j hj
    rcases I.eg x hx j hj with h | ⟨h1, h2⟩
    · exact .inl h
    · exact .inr ⟨h1, Nat.le_trans (le x) h2⟩
  · intro x hx hg y hy
    rcases I.eb x hx hg y hy with h | ⟨h1, h2⟩
    · exact .inl h
    · exact .inr ⟨h1, fun g hg' hs => Nat.le_trans (le g) (h2 g hg' hs)⟩

/-- An open node's next edge has been looked at. -/
theorem TI.next (I : TI n deg tgt idx low nx stack gr vis) (hd : nx v < deg v) (hw : Dn idx stack (tgt v (nx v)) ∨ (tgt v (nx v) ∈ stack ∧ low v ≤ idx (tgt v (nx v)))) : TI n deg tgt idx low (upd nx v (nx v + 1)) stack gr vis := by
  refine ⟨I.sn, I.si, I.sp, I.iv, ?_, I.gi, I.s1, I.s2, I.ll, I.dc, ?_, I.eb⟩
  · intro x hx
    refine ⟨(I.gs x hx).1, ?_⟩
    by_cases e : x = v
    · subst e; rw [upd_same]; omega
    · rw [upd_other _ _ e]; exact (I.gs x hx).2
  · intro x hx j hj
    by_cases e : x = v
    · subst e
      rw [upd_same] at hj
      by_cases ej : j = nx x
      · rw [ej]; exact hw
      · exact I.eg x hx j (by omega)
    · rw [upd_other _ _ e] at hj; exact I.eg x hx j hj

/-- The last open node is done with its edges, and reaches below itself: it is closed, but stays on the stack. -/
theorem TI.close {p : Nat} (I : TI n deg tgt idx low nx stack (pre ++ [p] ++ [v]) vis) (hn : nx v = deg v) (hlt : low v < idx v) (hp : low p ≤ low v) : TI n deg tgt idx low nx stack (pre ++ [p]) vis := by
  have hvg : v ∈ pre ++ [p] ++ [v] := by simp
  have sub : ∀ x, x ∈ pre ++ [p] → x ∈ pre ++ [p] ++ [v] := fun x h => List.mem_append.2 (.inl h)
  have lt : ∀ x, x ∈ pre ++ [p] → idx x < idx v := pw_last I.gi
  have lep : ∀ x, x ∈ pre ++ [p] → idx x ≤ idx p := fun x h => by
    rcases List.mem_append.1 h with q | q
    · exact Nat.le_of_lt (pw_last (pw_pre I.gi) x q)
    · rw [List.mem_singleton.1 q]; exact Nat.le_refl _
  have max : ∀ x, x ∈ pre ++ [p] ++ [v] → idx x ≤ idx v := fun x h => by
    rcases List.mem_append.1 h with q | q
    · exact Nat.le_of_lt (lt x q)
    · rw [List.mem_singleton.1 q]; exact Nat.le_refl _
  have other : ∀ x, x ∈ pre ++ [p] ++ [v] → idx x < idx v → x ∈ pre ++ [p] := fun x h hx => by
    rcases List.mem_append.1 h with q | q
    · exact q
    · rw [List.mem_singleton.1 q] at hx; omega
  have isP : ∀ g, g ∈ pre ++ [p] → ∀ x, idx v ≤ idx x → Seg idx (pre ++ [p]) g x → g = p := fun g hg x hx hs => by
    have h1 := hs.2 p (by simp) (by have := lt p (by simp); omega)
    have h2 := lep g hg
    exact pw_inj (pw_pre I.gi) hg (by simp) (by omega)
  refine ⟨I.sn, I.si, I.sp, I.iv, fun x hx => I.gs x (sub x hx), pw_pre I.gi, I.s1, ?_, fun x hx => I.ll x (sub x hx), I.dc, fun x hx => I.eg x (sub x hx), ?_⟩
  · intro x hx
    obtain ⟨g, hg, h1, h2⟩ := I.s2 x hx
    by_cases e : idx g < idx v
    · exact ⟨g, other g hg e, h1, h2⟩
    · have ge : g = v := pw_inj I.gi hg hvg (by have := max g hg; omega)
      subst ge
      obtain ⟨_, u, hu, h3, h4⟩ := I.ll g hvg
      obtain ⟨g', hg', h5, h6⟩ := I.s2 u hu
      exact ⟨g', other g' hg' (by omega), by omega, (h2.trans h4).trans h6⟩
  · intro x hx hng y hy
    by_cases e : x = v
    · subst e
      obtain ⟨_, j, hj, ht⟩ := hy
      have h := I.eg x hvg j (by omega)
      rw [ht] at h
      rcases h with h | ⟨h1, h2⟩
      · exact .inl h
      · refine .inr ⟨h1, fun g hg hs => ?_⟩
        rw [isP g hg x (Nat.le_refl _) hs]
        omega
    · have hng' : x ∉ pre ++ [p] ++ [v] := fun q => by
        rcases List.mem_append.1 q with q | q
        · exact hng q
        · exact e (List.mem_singleton.1 q)
      rcases I.eb x hx hng' y hy with h | ⟨h1, h2⟩
      · exact .inl h
      · refine .inr ⟨h1, fun g hg hs => ?_⟩
        by_cases hxv : idx v ≤ idx x
        · have := h2 v hvg ⟨hxv, fun g' hg' _ => max g' hg'⟩
          rw [isP g hg x hxv hs]
          omega
        · refine h2 g (sub g hg) ⟨hs.1, fun g' hg' hle => ?_⟩
          exact hs.2 g' (other g' hg' (by omega)) hle

/-- The last open node is done with its edges, and reaches nothing below itself: what stands on the stack from it on is its component. -/
theorem TI.comp {s t : List Nat} (I : TI n deg tgt idx low nx (s ++ v :: t) (pre ++ [v]) vis) (hn : nx v = deg v) (he : low v = idx v) :
    TI n deg tgt idx low nx s pre vis ∧ (∀ x ∈ v :: t, Reach (Ed n deg tgt) v x ∧ Reach (Ed n deg tgt) x v) ∧ (∀ y, Reach (Ed n deg tgt) v y → Reach (Ed n deg tgt) y v → y ∈ v :: t) ∧
    (∀ x, Dn idx s x ↔ Dn idx (s ++ v :: t) x ∨ x ∈ v :: t) := by
  have hvg : v ∈ pre ++ [v] := by simp
  have hvs : v ∈ s ++ v :: t := by simp
  have sub : ∀ x, x ∈ pre → x ∈ pre ++ [v] := fun x h => List.mem_append.2 (.inl h)
  have lt : ∀ x, x ∈ pre → idx x < idx v := pw_last I.gi
  have max : ∀ x, x ∈ pre ++ [v] → idx x ≤ idx v := fun x h => by
    rcases List.mem_append.1 h with q | q
    · exact Nat.le_of_lt (lt x q)
    · rw [List.mem_singleton.1 q]; exact Nat.le_refl _
  have pw := List.pairwise_append.1 I.si
  have slt : ∀ x, x ∈ s → idx x < idx v := fun x h => pw.2.2 x h v (by simp)
  have tge : ∀ x, x ∈ v :: t → idx v ≤ idx x := fun x h => by
    rcases List.mem_cons.1 h with q | q
    · rw [q]; exact Nat.le_refl _
    · exact Nat.le_of_lt ((List.pairwise_cons.1 pw.2.1).1 x q)
  have ins : ∀ x, x ∈ s ++ v :: t → idx x < idx v → x ∈ s := fun x h hx => by
    rcases List.mem_append.1 h with q | q
    · exact q
    · have := tge x q; omega
  have inc : ∀ x, x ∈ s ++ v :: t → idx v ≤ idx x → x ∈ v :: t := fun x h hx => by
    rcases List.mem_append.1 h with q | q
    · have := slt x q; omega
    · exact q
  have ss : ∀ x, x ∈ s → x ∈ s ++ v :: t := fun x h => List.mem_append.2 (.inl h)
  have cs : ∀ x, x ∈ v :: t → x ∈ s ++ v :: t := fun x h => List.mem_append.2 (.inr h)
  have gin : ∀ x, x ∈ pre → x ∈ s := fun x h => ins x (I.gs x (sub x h)).1 (lt x h)
  have d1 : ∀ x, Dn idx (s ++ v :: t) x → Dn idx s x := fun x h => ⟨h.1, fun q => h.2 (ss x q)⟩
  have d2 : ∀ x, x ∈ s ++ v :: t → idx v ≤ idx x → Dn idx s x := fun x h hx => ⟨I.sp x h, fun q => by have := slt x q; omega⟩
  have dd : ∀ x, Dn idx s x ↔ Dn idx (s ++ v :: t) x ∨ x ∈ v :: t := fun x => by
    constructor
    · intro h
      by_cases hx : x ∈ s ++ v :: t
      · rcases List.mem_append.1 hx with q | q
        · exact absurd q h.2
        · exact .inr q
      · exact .inl ⟨h.1, hx⟩
    · rintro (h | h)
      · exact d1 x h
      · exact d2 x (cs x h) (tge x h)
  have cl : ∀ x, x ∈ v :: t → ∀ y, Ed n deg tgt x y → Dn idx s y := fun x hx y hy => by
    by_cases e : x = v
    · subst e
      obtain ⟨_, j, hj, ht⟩ := hy
      have h := I.eg x hvg j (by omega)
      rw [ht] at h
      rcases h with h | ⟨h1, h2⟩
      · exact d1 y h
      · exact d2 y h1 (by omega)
    · have hxt : idx v ≤ idx x := tge x hx
      have hng : x ∉ pre ++ [v] := fun q => by
        rcases List.mem_append.1 q with q | q
        · have := lt x q; omega
        · exact e (List.mem_singleton.1 q)
      rcases I.eb x (cs x hx) hng y hy with h | ⟨h1, h2⟩
      · exact d1 y h
      · exact d2 y h1 (by have := h2 v hvg ⟨hxt, fun g' hg' _ => max g' hg'⟩; omega)
  have dcl : ∀ x, Dn idx s x → ∀ y, Ed n deg tgt x y → Dn idx s y := fun x hx y hy => by
    rcases (dd x).1 hx with q | q
    · exact d1 y (I.dc x q y hy)
    · exact cl x q y hy
  refine ⟨⟨fun x hx => I.sn x (ss x hx), pw_pre I.si, fun x hx => I.sp x (ss x hx), I.iv, fun x hx => ⟨gin x hx, (I.gs x (sub x hx)).2⟩, pw_pre I.gi, fun x hx y hy => I.s1 x (ss x hx) y (ss y hy), ?_, ?_, dcl, ?_, ?_⟩, ?_, ?_, dd⟩
  · intro x hx
    obtain ⟨g, hg, h1, h2⟩ := I.s2 x (ss x hx)
    rcases List.mem_append.1 hg with q | q
    · exact ⟨g, q, h1, h2⟩
    · rw [List.mem_singleton.1 q] at h1; have := slt x hx; omega
  · intro x hx
    obtain ⟨h1, u, hu, h2, h3⟩ := I.ll x (sub x hx)
    exact ⟨h1, u, ins u hu (by have := lt x hx; omega), h2, h3⟩
  · intro x hx j hj
    rcases I.eg x (sub x hx) j hj with h | ⟨h1, h2⟩
    · exact .inl (d1 _ h)
    · by_cases q : idx (tgt x j) < idx v
      · exact .inr ⟨ins _ h1 q, h2⟩
      · exact .inl (d2 _ h1 (by omega))
  · intro x hx hng y hy
    have hxv := slt x hx
    have hng' : x ∉ pre ++ [v] := fun q => by
      rcases List.mem_append.1 q with q | q
      · exact hng q
      · rw [List.mem_singleton.1 q] at hxv; omega
    rcases I.eb x (ss x hx) hng' y hy with h | ⟨h1, h2⟩
    · exact .inl (d1 _ h)
    · by_cases q : idx y < idx v
      · refine .inr ⟨ins _ h1 q, fun g hg hs => h2 g (sub g hg) ⟨hs.1, fun g' hg' hle => ?_⟩⟩
        rcases List.mem_append.1 hg' with r | r
        · exact hs.2 g' r hle
        · rw [List.mem_singleton.1 r] at hle; omega
      · exact .inl (d2 _ h1 (by omega))
  · intro x hx
    refine ⟨I.s1 v hvs x (cs x hx) (tge x hx), ?_⟩
    obtain ⟨g, hg, h1, h2⟩ := I.s2 x (cs x hx)
    exact h2.trans (I.s1 g (I.gs g hg).1 v hvs (max g hg))
  · intro y h1 h2
    have hy : Dn idx s y := h1.closed (fun a b ha e => dcl a ha b e) (d2 v hvs (Nat.le_refl _))
    rcases (dd y).1 hy with q | q
    · have hv : Dn idx (s ++ v :: t) v := h2.closed (fun a b ha e => I.dc a ha b e) q
      exact absurd hvs hv.2
    · exact q

/-- What the component does to the lowest node: it has more than one node, and m, its least, is lower. -/
theorem comp_take {D : Nat → Prop} {C : List Nat} {r : Int} {m : Nat} {E : Nat → Nat → Prop} {D' : Nat → Prop} (hL : Low E D r) (hD : ∀ x, D' x ↔ D x ∨ x ∈ C)
    (hC : ∀ x ∈ C, Reach E v x ∧ Reach E x v) (hm : m ∈ C) (hmin : ∀ x ∈ C, m ≤ x) (h2 : ∃ y ∈ C, y ≠ m) (hr : r < 0 ∨ (m : Int) < r) : Low E D' m := by
  obtain ⟨y, hy, hne⟩ := h2
  exact hL.take (C := fun x => x ∈ C) hD hm ⟨y, hne, (hC m hm).2.trans (hC y hy).1, (hC y hy).2.trans (hC m hm).1⟩ hmin hr
/-- It is a single node: it lies on no cycle. -/
theorem comp_one {D : Nat → Prop} {r : Int} {E : Nat → Nat → Prop} {D' : Nat → Prop} (hL : Low E D r) (hD : ∀ x, D' x ↔ D x ∨ x ∈ [v]) (hC : ∀ y, Reach E v y → Reach E y v → y ∈ [v]) : Low E D' r := by
  refine hL.skip (fun x hx => ?_) (fun x hx => (hD x).2 (.inl hx))
  rcases (hD x).1 hx with q | q
  · exact .inl q
  · rw [List.mem_singleton] at q
    subst q
    refine .inr (fun ⟨y, hne, h1, h2⟩ => hne ?_)
    exact List.mem_singleton.1 (hC y h1 h2)
end Go.Proofs.Qxb6603020a.Pl
