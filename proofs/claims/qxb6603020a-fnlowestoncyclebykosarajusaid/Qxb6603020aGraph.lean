/-
  PLAIN: reachability, strongly connected components, the lowest node on a cycle. No Go in sight.
-/
namespace Go.Proofs.Qxb6603020a.Pl

/-- y can be reached from x: it lies in every set that holds x and is closed under the edges. -/
def Reach (E : Nat → Nat → Prop) (x y : Nat) : Prop := ∀ S : Nat → Prop, S x → (∀ a b, S a → E a b → S b) → S y

variable {E : Nat → Nat → Prop}
theorem Reach.refl (x : Nat) : Reach E x x := fun _ h _ => h
theorem Reach.tail {x y z : Nat} (h : Reach E x y) (e : E y z) : Reach E x z := fun S hx hS => hS y z (h S hx hS) e
theorem Reach.edge {x y : Nat} (e : E x y) : Reach E x y := (Reach.refl x).tail e
theorem Reach.trans {x y z : Nat} (h : Reach E x y) (k : Reach E y z) : Reach E x z := fun S hx hS => k S (h S hx hS) hS
theorem Reach.head {x y z : Nat} (e : E x y) (h : Reach E y z) : Reach E x z := (Reach.edge e).trans h
/-- A set that is closed under the edges holds what is reached from it. -/
theorem Reach.closed {x y : Nat} (h : Reach E x y) {D : Nat → Prop} (hD : ∀ a b, D a → E a b → D b) (hx : D x) : D y := h D hx hD
/-- The same backwards. -/
theorem Reach.back {x y : Nat} (h : Reach E x y) {D : Nat → Prop} (hD : ∀ a b, E a b → D b → D a) (hy : D y) : D x := by
  have := h (fun z => D z → D x) (fun q => q) (fun a b ha e hb => ha (hD a b e hb))
  exact this hy

/-- x lies on a cycle with another node. -/
def OnC (E : Nat → Nat → Prop) (x : Nat) : Prop := ∃ y, y ≠ x ∧ Reach E x y ∧ Reach E y x

/-- r is the least node of D that lies on a cycle, or -1 where none does. -/
def Low (E : Nat → Nat → Prop) (D : Nat → Prop) (r : Int) : Prop :=
  (r = -1 ∧ ∀ x, D x → ¬ OnC E x) ∨ (∃ k : Nat, r = k ∧ D k ∧ OnC E k ∧ ∀ x, D x → OnC E x → k ≤ x)

theorem Low.unique {D : Nat → Prop} {r s : Int} (h : Low E D r) (k : Low E D s) : r = s := by
  rcases h with ⟨rfl, h⟩ | ⟨a, rfl, ha, hc, hm⟩
  · rcases k with ⟨rfl, _⟩ | ⟨b, rfl, hb, hc, _⟩
    · rfl
    · exact absurd hc (h b hb)
  · rcases k with ⟨rfl, k⟩ | ⟨b, rfl, hb, hcb, hmb⟩
    · exact absurd hc (k a ha)
    · have h1 := hm b hb hcb
      have h2 := hmb a ha hc
      omega
theorem Low.congr {D D' : Nat → Prop} {r : Int} (h : Low E D r) (hD : ∀ x, D x ↔ D' x) : Low E D' r := by
  rcases h with ⟨rfl, h⟩ | ⟨a, rfl, ha, hc, hm⟩
  · exact .inl ⟨rfl, fun x hx => h x ((hD x).2 hx)⟩
  · exact .inr ⟨a, rfl, (hD a).1 ha, hc, fun x hx => hm x ((hD x).2 hx)⟩
/-- Nodes that lie on no cycle are added. -/
theorem Low.skip {D D' : Nat → Prop} {r : Int} (h : Low E D r) (hD : ∀ x, D' x → D x ∨ ¬ OnC E x) (hs : ∀ x, D x → D' x) : Low E D' r := by
  rcases h with ⟨rfl, h⟩ | ⟨a, rfl, ha, hc, hm⟩
  · refine .inl ⟨rfl, fun x hx => ?_⟩
    rcases hD x hx with q | q
    · exact h x q
    · exact q
  · refine .inr ⟨a, rfl, hs a ha, hc, fun x hx ho => ?_⟩
    rcases hD x hx with q | q
    · exact hm x q ho
    · exact absurd ho q
/-- A component whose least node is m is added, and m is lower than what was lowest. -/
theorem Low.take {D D' C : Nat → Prop} {r : Int} {m : Nat} (h : Low E D r) (hD : ∀ x, D' x ↔ D x ∨ C x) (hm : C m) (hc : OnC E m) (hl : ∀ x, C x → m ≤ x) (hr : r < 0 ∨ (m : Int) < r) : Low E D' m := by
  refine .inr ⟨m, rfl, (hD m).2 (.inr hm), hc, fun x hx ho => ?_⟩
  rcases (hD x).1 hx with q | q
  · rcases h with ⟨rfl, h⟩ | ⟨a, rfl, ha, hca, hma⟩
    · exact absurd ho (h x q)
    · have := hma x q ho
      omega
  · exact hl x q
/-- A component whose least node is m is added, and m is no lower. -/
theorem Low.keep {D D' C : Nat → Prop} {r : Int} {m : Nat} (h : Low E D r) (hD : ∀ x, D' x ↔ D x ∨ C x) (hl : ∀ x, C x → m ≤ x) (hr : 0 ≤ r) (hm : r ≤ (m : Int)) : Low E D' r := by
  rcases h with ⟨rfl, h⟩ | ⟨a, rfl, ha, hca, hma⟩
  · omega
  · refine .inr ⟨a, rfl, (hD a).2 (.inl ha), hca, fun x hx ho => ?_⟩
    rcases (hD x).1 hx with q | q
    · exact hma x q ho
    · have := hl x q
      omega
theorem Low.none : Low E (fun _ => False) (-1) := .inl ⟨rfl, fun _ h => h.elim⟩

/-- A function changed at one place. -/
def upd {α : Type} (f : Nat → α) (k : Nat) (v : α) : Nat → α := fun x => if x = k then v else f x
theorem upd_same {α : Type} (f : Nat → α) (k : Nat) (v : α) : upd f k v k = v := by unfold upd; rw [if_pos rfl]
theorem upd_other {α : Type} (f : Nat → α) {k x : Nat} (v : α) (h : x ≠ k) : upd f k v x = f x := by unfold upd; rw [if_neg h]

/-- The sum over the nodes below n. -/
def sumTo (f : Nat → Nat) : Nat → Nat
  | 0 => 0
  | n + 1 => sumTo f n + f n
theorem sumTo_congr {f g : Nat → Nat} : ∀ {n : Nat}, (∀ x, x < n → f x = g x) → sumTo f n = sumTo g n
  | 0, _ => rfl
  | n + 1, h => by unfold sumTo; rw [sumTo_congr (fun x hx => h x (by omega)), h n (by omega)]
theorem sumTo_upd {f g : Nat → Nat} {k : Nat} : ∀ {n : Nat}, k < n → (∀ x, x ≠ k → f x = g x) → sumTo f n + g k = sumTo g n + f k
  | 0, h, _ => by omega
  | n + 1, h, he => by
    unfold sumTo
    by_cases e : k = n
    · subst e
      rw [sumTo_congr (f := f) (g := g) (fun x hx => he x (by omega))]
      omega
    · have := sumTo_upd (n := n) (by omega) he
      have := he n (fun q => e q.symm)
      omega
end Go.Proofs.Qxb6603020a.Pl
