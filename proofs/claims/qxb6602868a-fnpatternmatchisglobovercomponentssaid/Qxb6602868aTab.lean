/-
  THE TABLE, PLAIN: which of its places are filled.
-/
import Derived.Test.Qxb6602868aOwn
namespace Go.Proofs.Qxb6602868a
open Go.RowKit

/-- The places behind (i, j) in the order in which the table is filled hold their answers. -/
def Done (F : Nat → Nat → Bool) (n m : Nat) (fs : List Bool) (i j : Nat) : Prop :=
  fs.length = (n + 1) * (m + 1) ∧ ∀ x y, x ≤ n → y ≤ m → (i < x ∨ (x = i ∧ j ≤ y)) → fs[x * (m + 1) + y]? = some (F x y)

theorem place_lt {n m i j : Nat} (hi : i ≤ n) (hj : j ≤ m) : i * (m + 1) + j < (n + 1) * (m + 1) := by
  have h := Nat.mul_le_mul_right (m + 1) (show i + 1 ≤ n + 1 by omega)
  rw [Nat.succ_mul] at h
  omega
theorem place_inj {m x y i j : Nat} (hy : y ≤ m) (hj : j ≤ m) (h : x * (m + 1) + y = i * (m + 1) + j) : x = i ∧ y = j := by
  have h1 : (x * (m + 1) + y) / (m + 1) = x := by
    rw [Nat.mul_comm, Nat.mul_add_div (by omega), Nat.div_eq_of_lt (by omega), Nat.add_zero]
  have h2 : (i * (m + 1) + j) / (m + 1) = i := by
    rw [Nat.mul_comm, Nat.mul_add_div (by omega), Nat.div_eq_of_lt (by omega), Nat.add_zero]
  have e : x = i := by rw [← h1, h, h2]
  subst e
  exact ⟨rfl, by omega⟩
theorem Done.start {F : Nat → Nat → Bool} {n m : Nat} : Done F n m (List.replicate ((n + 1) * (m + 1)) false) (n + 1) 0 :=
  ⟨by simp, fun x y hx hy h => by omega⟩
theorem Done.row {F : Nat → Nat → Bool} {n m i : Nat} {fs : List Bool} (h : Done F n m fs (i + 1) 0) : Done F n m fs i (m + 1) :=
  ⟨h.1, fun x y hx hy hc => h.2 x y hx hy (by omega)⟩
theorem Done.put {F : Nat → Nat → Bool} {n m i j : Nat} {fs : List Bool} (h : Done F n m fs i (j + 1)) (hi : i ≤ n) (hj : j ≤ m) {v : Bool} (hv : v = F i j) : Done F n m (fs.set (i * (m + 1) + j) v) i j := by
  refine ⟨by rw [List.length_set]; exact h.1, fun x y hx hy hc => ?_⟩
  by_cases e : x = i ∧ y = j
  · obtain ⟨rfl, rfl⟩ := e
    rw [List.getElem?_set_self (by rw [h.1]; exact place_lt hx hy), hv]
  · rw [List.getElem?_set_ne (fun q => e (by have := place_inj hj hy q; exact ⟨this.1.symm, this.2.symm⟩))]
    exact h.2 x y hx hy (by omega)
theorem Done.get {F : Nat → Nat → Bool} {n m i j : Nat} {fs : List Bool} (h : Done F n m fs i j) {x y : Nat} (hx : x ≤ n) (hy : y ≤ m) (hc : i < x ∨ (x = i ∧ j ≤ y)) {w : World} {g : Nat} {T : TypeId} (ho : Own w g T (fs.map Value.bool)) :
    w.cell? ⟨g, x * (m + 1) + y, none⟩ = some (.bool (F x y)) := by
  rw [ho.cell, List.getElem?_map, h.2 x y hx hy hc]
  rfl
theorem Done.old {F : Nat → Nat → Bool} {n m i j : Nat} {fs : List Bool} (h : Done F n m fs i j) {x y : Nat} (hx : x ≤ n) (hy : y ≤ m) {w : World} {g : Nat} {T : TypeId} (ho : Own w g T (fs.map Value.bool)) :
    ∃ v, w.cell? ⟨g, x * (m + 1) + y, none⟩ = some v := by
  rw [ho.cell, List.getElem?_map, List.getElem?_eq_getElem (by rw [h.1]; exact place_lt hx hy)]
  exact ⟨_, rfl⟩
theorem own_put {w : World} {g : Nat} {T : TypeId} {fs : List Bool} (ho : Own w g T (fs.map Value.bool)) (k : Nat) (v : Bool) : Own (w.setCell ⟨g, k, none⟩ (.bool v)) g T ((fs.set k v).map Value.bool) := by
  rw [List.map_set]
  exact ho.set k _
theorem own_bools (w : World) (T : TypeId) (n : Nat) : Own (w.alloc (.cells (madeCells #[.bool false] n) T)) w.heap.size T ((List.replicate n false).map Value.bool) := by
  rw [List.map_replicate]
  exact Own.made w T _ n
end Go.Proofs.Qxb6602868a
