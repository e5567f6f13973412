/-
  PLAIN: lowestOnCycle's steps with the counts, the flags and the lowest node. No Go in sight.
-/
import Derived.Test.Qxb6603020aTarjan
import Derived.Test.Qxb6603020aCsr
import Derived.Test.Qxb6603020aMeas
namespace Go.Proofs.Qxb6603020a.Pl

/-- Which nodes are visited. -/
def vs (idx : Nat → Nat) (x : Nat) : Bool := decide (0 < idx x)
theorem vs_false {idx : Nat → Nat} {x : Nat} (h : idx x = 0) : vs idx x = false := by unfold vs; rw [h]; rfl
theorem vs_upd (idx : Nat → Nat) (w k : Nat) : vs (upd idx w (k + 1)) = upd (vs idx) w true := by
  funext x
  by_cases e : x = w
  · rw [e, upd_same]; unfold vs; rw [upd_same]; simp
  · rw [upd_other _ _ e]; unfold vs; rw [upd_other _ _ e]

structure TN (n : Nat) (out pos : Nat → Nat) (idx low : Nat → Nat) (on : Nat → Bool) (stk gr : List Nat) (nx : Nat → Nat) (vis : Nat) (lo : Int) (r : Nat) : Prop where
  ti : TI n (degC pos) (tgtC out pos) idx low nx stk gr vis
  lw : Low (EC n out pos) (Dn idx stk) lo
  bd : ∀ x, 0 < idx x → x < n
  os : ∀ x, x < n → (on x = true ↔ x ∈ stk)
  rt : ∀ x, x < r → 0 < idx x
  ct : cb (vs idx) n = vis
  l1 : stk.length ≤ vis
  l2 : gr.length ≤ vis

variable {n : Nat} {out pos idx low : Nat → Nat} {on : Nat → Bool} {stk gr pre : List Nat} {nx : Nat → Nat} {vis : Nat} {lo : Int} {r v w : Nat}

theorem TN.start : TN n out pos (fun _ => 0) (fun _ => 0) (fun _ => false) [] [] (fun _ => 0) 0 (-1) 0 :=
  ⟨TI.start, .inl ⟨rfl, fun x h => absurd h.1 (Nat.lt_irrefl 0)⟩, fun x h => absurd h (Nat.lt_irrefl 0), fun x _ => ⟨fun h => (nomatch h), fun h => (nomatch h)⟩, fun x h => absurd h (by omega), cb_none n, Nat.le_refl _, Nat.le_refl _⟩
theorem TN.vis_le (T : TN n out pos idx low on stk gr nx vis lo r) : vis ≤ n := by have := cb_le (vs idx) n; rw [T.ct] at this; exact this
theorem TN.vis_lt (T : TN n out pos idx low on stk gr nx vis lo r) (hw : w < n) (h0 : idx w = 0) : vis < n := by have := cb_lt hw (vs_false h0); rw [T.ct] at this; exact this

theorem TN.visit (T : TN n out pos idx low on stk gr nx vis lo r) (hw : w < n) (h0 : idx w = 0) (nx' : Nat → Nat) (hnw : nx' w = 0)
    (hp : (gr = [] ∧ nx' = upd nx w 0) ∨ ∃ pre v, gr = pre ++ [v] ∧ nx v < degC pos v ∧ tgtC out pos v (nx v) = w ∧ v ≠ w ∧ nx' = upd (upd nx v (nx v + 1)) w 0) :
    TN n out pos (upd idx w (vis + 1)) (upd low w (vis + 1)) (upd on w true) (stk ++ [w]) (gr ++ [w]) nx' (vis + 1) lo r := by
  refine ⟨T.ti.visit hw h0 nx' hnw hp, T.lw.congr (fun x => ?_), fun x hx => ?_, fun x hx => ?_, fun x hx => ?_, ?_, ?_, ?_⟩
  · unfold Dn
    by_cases e : x = w
    · subst e
      rw [upd_same]
      exact ⟨fun h => by omega, fun h => absurd (by simp) h.2⟩
    · rw [upd_other _ _ e]
      simp [e]
  · by_cases e : x = w
    · rw [e]; exact hw
    · rw [upd_other _ _ e] at hx; exact T.bd x hx
  · by_cases e : x = w
    · rw [e, upd_same]; simp
    · rw [upd_other _ _ e, T.os x hx]; simp [e]
  · by_cases e : x = w
    · rw [e, upd_same]; omega
    · rw [upd_other _ _ e]; exact T.rt x hx
  · rw [vs_upd, cb_push hw (vs_false h0), T.ct]
  · have := T.l1; rw [List.length_append]; have h4 : [w].length = 1 := rfl; omega
  · have := T.l2; rw [List.length_append]; have h4 : [w].length = 1 := rfl; omega
/-- The next root is visited: all up to it are. -/
theorem TN.root (T : TN n out pos idx low on stk gr nx vis lo r) (h : 0 < idx r) : TN n out pos idx low on stk gr nx vis lo (r + 1) :=
  ⟨T.ti, T.lw, T.bd, T.os, fun x hx => by
    by_cases e : x = r
    · rw [e]; exact h
    · exact T.rt x (by omega), T.ct, T.l1, T.l2⟩
theorem TN.final (T : TN n out pos idx low on stk [] nx vis lo n) : Low (EC n out pos) (fun x => x < n) lo := by
  have e := T.ti.empty
  subst e
  exact T.lw.congr (fun x => ⟨fun h => T.bd x h.1, fun h => ⟨T.rt x h, fun q => (nomatch q)⟩⟩)

/-- What holds of the last open node. -/
theorem TN.top (T : TN n out pos idx low on stk (pre ++ [v]) nx vis lo r) : v < n ∧ v ∈ stk ∧ nx v ≤ degC pos v ∧ v ∉ pre ∧ pre.length + 1 ≤ n ∧ stk.length ≤ n ∧ 0 < idx v := by
  have hm : v ∈ pre ++ [v] := by simp
  have h1 := T.ti.gs v hm
  have h2 := T.l2
  have h3 := T.l1
  have h4 := T.vis_le
  rw [List.length_append] at h2
  have h5 : [v].length = 1 := rfl
  refine ⟨T.ti.sn v h1.1, h1.1, h1.2, fun q => ?_, by omega, by omega, T.ti.sp v h1.1⟩
  have := pw_last T.ti.gi v q
  omega
theorem TN.open_not (T : TN n out pos idx low on stk gr nx vis lo r) (h0 : idx w = 0) : w ∉ gr := fun q => by have := T.ti.sp w (T.ti.gs w q).1; omega

/-- An edge to a node that is done. -/
theorem TN.next (T : TN n out pos idx low on stk (pre ++ [v]) nx vis lo r) (hd : nx v < degC pos v) {x : Nat} (hx : tgtC out pos v (nx v) = x) (hxn : x < n) (h0 : idx x ≠ 0) (ho : on x = false) :
    TN n out pos idx low on stk (pre ++ [v]) (upd nx v (nx v + 1)) vis lo r :=
  ⟨T.ti.next hd (.inl (by rw [hx]; exact ⟨by omega, fun q => by have := (T.os x hxn).2 q; rw [ho] at this; cases this⟩)), T.lw, T.bd, T.os, T.rt, T.ct, T.l1, T.l2⟩
/-- An edge to a node on the stack. -/
theorem TN.lower (T : TN n out pos idx low on stk (pre ++ [v]) nx vis lo r) (hd : nx v < degC pos v) {x : Nat} (hx : tgtC out pos v (nx v) = x) (hxn : x < n) (ho : on x = true) {l : Nat} (hl : l = min (low v) (idx x)) :
    TN n out pos idx (upd low v l) on stk (pre ++ [v]) (upd nx v (nx v + 1)) vis lo r := by
  have hxs := (T.os x hxn).1 ho
  have hv := T.top.1
  have hle : l ≤ low v ∧ l ≤ idx x := by rw [hl]; omega
  have hE : Ed n (degC pos) (tgtC out pos) v x := ⟨hv, nx v, hd, hx⟩
  have h1 := T.ti.lower (v := v) (l := l) hle.1 (by
    by_cases q : low v ≤ idx x
    · obtain ⟨u, h1, h2, h3⟩ := (T.ti.ll v (by simp)).2
      exact ⟨u, h1, by omega, h3⟩
    · exact ⟨x, hxs, by omega, Reach.edge hE⟩)
  exact ⟨h1.next hd (.inr (by rw [hx, upd_same]; exact ⟨hxs, hle.2⟩)), T.lw, T.bd, T.os, T.rt, T.ct, T.l1, T.l2⟩
/-- The last open node hands what it reached to the one below. -/
theorem TN.hand {p : Nat} (T : TN n out pos idx low on stk (pre ++ [p] ++ [v]) nx vis lo r) {l : Nat} (hl : l = min (low p) (low v)) : TN n out pos idx (upd low p l) on stk (pre ++ [p] ++ [v]) nx vis lo r := by
  refine ⟨T.ti.lower (v := p) (l := l) (by rw [hl]; omega) ?_, T.lw, T.bd, T.os, T.rt, T.ct, T.l1, T.l2⟩
  have hp : p ∈ pre ++ [p] ++ [v] := by simp
  have hv : v ∈ pre ++ [p] ++ [v] := by simp
  by_cases q : low p ≤ low v
  · obtain ⟨u, h1, h2, h3⟩ := (T.ti.ll p hp).2
    exact ⟨u, h1, by omega, h3⟩
  · obtain ⟨u, h1, h2, h3⟩ := (T.ti.ll v hv).2
    refine ⟨u, h1, by omega, Reach.trans ?_ h3⟩
    have hlt := pw_last T.ti.gi p (by simp)
    exact T.ti.s1 p (T.ti.gs p hp).1 v (T.ti.gs v hv).1 (by omega)
theorem TN.ne2 {p : Nat} (T : TN n out pos idx low on stk (pre ++ [p] ++ [v]) nx vis lo r) : v ≠ p ∧ p < n := by
  have hlt := pw_last T.ti.gi p (by simp)
  exact ⟨fun q => by rw [q] at hlt; omega, T.ti.sn p (T.ti.gs p (by simp)).1⟩
/-- It reached further down: it is closed without a component. -/
theorem TN.close {p : Nat} (T : TN n out pos idx low on stk (pre ++ [p] ++ [v]) nx vis lo r) (hn : nx v = degC pos v) (hne : low v ≠ idx v) (hp : low p ≤ low v) : TN n out pos idx low on stk (pre ++ [p]) nx vis lo r := by
  have h1 := (T.ti.ll v (by simp)).1
  refine ⟨T.ti.close hn (by omega) hp, T.lw, T.bd, T.os, T.rt, T.ct, T.l1, ?_⟩
  have := T.l2
  rw [List.length_append] at this
  omega
/-- Where one node alone is open it is its component's root. -/
theorem TN.lone (T : TN n out pos idx low on stk [v] nx vis lo r) : low v = idx v := by
  obtain ⟨h1, u, h2, h3, _⟩ := T.ti.ll v (by simp)
  obtain ⟨g, hg, h4, _⟩ := T.ti.s2 u h2
  obtain rfl : g = v := by simpa using hg
  omega
theorem nodup_of_pw {f : Nat → Nat} {l : List Nat} (h : l.Pairwise (fun a b => f a < f b)) : l.Nodup := List.Pairwise.imp (fun {a b} hab e => by rw [e] at hab; omega) h

/-- The component is taken off. -/
theorem TN.comp {s t : List Nat} (T : TN n out pos idx low on (s ++ v :: t) (pre ++ [v]) nx vis lo r) (hn : nx v = degC pos v) (he : low v = idx v) {m : Nat} (hm : m ∈ v :: t) (hmin : ∀ x ∈ v :: t, m ≤ x)
    {lo' : Int} (hlo : lo' = if 1 < (v :: t).length ∧ (lo < 0 ∨ (m : Int) < lo) then (m : Int) else lo) {on' : Nat → Bool} (hon : ∀ x, x < n → (on' x = true ↔ on x = true ∧ x ∉ v :: t)) :
    TN n out pos idx low on' s pre nx vis lo' r := by
  obtain ⟨h1, h2, h3, h4⟩ := T.ti.comp hn he
  have hnd := nodup_of_pw T.ti.si
  have hdis := (List.nodup_append.1 hnd).2.2
  have hndc := (List.nodup_append.1 hnd).2.1
  refine ⟨h1, ?_, T.bd, fun x hx => ?_, T.rt, T.ct, ?_, ?_⟩
  · by_cases hp : 1 < (v :: t).length
    · by_cases hq : lo < 0 ∨ (m : Int) < lo
      · rw [hlo, if_pos ⟨hp, hq⟩]
        refine comp_take T.lw h4 h2 hm hmin ?_ hq
        by_cases e : m = v
        · match t, hp, hndc with
          | y :: t, _, hndc => exact ⟨y, by simp, fun q => (List.nodup_cons.1 hndc).1 (by rw [← e, ← q]; simp)⟩
        · exact ⟨v, by simp, fun q => e q.symm⟩
      · rw [hlo, if_neg (fun h => hq h.2)]
        exact T.lw.keep (C := fun x => x ∈ v :: t) (m := m) h4 hmin (by omega) (by omega)
    · rw [hlo, if_neg (fun h => hp h.1)]
      have ht : t = [] := by
        cases t with
        | nil => rfl
        | cons y t => exact absurd (by simp) hp
      subst ht
      exact comp_one T.lw h4 h3
  · rw [hon x hx, T.os x hx]
    constructor
    · rintro ⟨h5, h6⟩
      rcases List.mem_append.1 h5 with q | q
      · exact q
      · exact absurd q h6
    · intro h5
      exact ⟨List.mem_append.2 (.inl h5), fun q => hdis x h5 x q rfl⟩
  · have := T.l1; rw [List.length_append] at this; omega
  · have := T.l2; rw [List.length_append] at this; omega
/-- v lies on the stack once. -/
theorem TN.split (T : TN n out pos idx low on stk (pre ++ [v]) nx vis lo r) : ∃ s t, stk = s ++ v :: t ∧ v ∉ t ∧ ∀ x ∈ s ++ v :: t, x < n := by
  obtain ⟨s, t, e⟩ := List.append_of_mem T.top.2.1
  refine ⟨s, t, e, ?_, fun x hx => T.ti.sn x (by rw [e]; exact hx)⟩
  have hnd := nodup_of_pw T.ti.si
  rw [e] at hnd
  exact (List.nodup_cons.1 (List.nodup_append.1 hnd).2.1).1
theorem low_range {E : Nat → Nat → Prop} {D : Nat → Prop} (h : Low E D lo) (hb : ∀ x, D x → x < n) : -1 ≤ lo ∧ lo < n := by
  rcases h with ⟨rfl, _⟩ | ⟨k, rfl, hk, _⟩
  · omega
  · have := hb k hk
    omega
theorem TN.range (T : TN n out pos idx low on stk gr nx vis lo r) : -1 ≤ lo ∧ lo < n := low_range T.lw (fun x hx => T.bd x hx.1)
end Go.Proofs.Qxb6603020a.Pl
