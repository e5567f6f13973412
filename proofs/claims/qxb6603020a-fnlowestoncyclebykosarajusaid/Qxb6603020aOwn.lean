/-
  A BLOCK OF THE CALL'S OWN, KNOWN WHOLE: 'Own w g T cs': block g holds the cells cs (elements of type T), none of them frozen. What it gives and what keeps it. No program.
-/
import Derived.WalkKit
import Derived.Deep.Draws
import Derived.Deep.OwnRows
namespace Go.Proofs.Qxb6603020a
open Go.RowKit

/-- Block g holds just the cells cs, none frozen. -/
def Own (w : World) (g : Nat) (T : TypeId) (cs : List Value) : Prop := w.heap[g]? = some (.cells cs.toArray T (0, 0))

theorem Own.lt {w : World} {g : Nat} {T : TypeId} {cs : List Value} (h : Own w g T cs) : g < w.heap.size := by
  unfold Own at h
  by_cases e : g < w.heap.size
  · exact e
  · rw [Array.getElem?_eq_none (by omega)] at h
    cases h
theorem Own.cell {w : World} {g : Nat} {T : TypeId} {cs : List Value} (h : Own w g T cs) (k : Nat) : w.cell? ⟨g, k, none⟩ = cs[k]? := by
  unfold Own at h
  rw [cell_of_row w g k _ T _ h]
  simp
theorem Own.free {w : World} {g : Nat} {T : TypeId} {cs : List Value} (h : Own w g T cs) (k : Nat) : w.frozen? ⟨g, k, none⟩ = false := by
  unfold Own at h
  simp [World.frozen?, h]
theorem Own.set {w : World} {g : Nat} {T : TypeId} {cs : List Value} (h : Own w g T cs) (k : Nat) (v : Value) : Own (w.setCell ⟨g, k, none⟩ v) g T (cs.set k v) := by
  unfold Own at h ⊢
  simp only [World.setCell, Array.getElem?_modify]
  rw [if_pos trivial, h]
  simp
theorem Own.other {w : World} {g : Nat} {T : TypeId} {cs : List Value} (h : Own w g T cs) {a : Addr} (ha : a.block ≠ g) (v : Value) : Own (w.setCell a v) g T cs := by
  unfold Own at h ⊢
  rw [Below.heap_setCell _ _ _ _ (fun e => ha e.symm)]
  exact h
theorem Own.alloc {w : World} {g : Nat} {T : TypeId} {cs : List Value} (h : Own w g T cs) (o : Obj) : Own (w.alloc o) g T cs := by
  have hl := h.lt
  unfold Own at h ⊢
  rw [Below.heap_alloc _ _ _ hl]
  exact h
theorem Own.drewN {w : World} {g : Nat} {T : TypeId} {cs : List Value} (h : Own w g T cs) (n : Nat) : Own (w.drewN n) g T cs := h
theorem Own.drew {w : World} {g : Nat} {T : TypeId} {cs : List Value} (h : Own w g T cs) : Own w.drew g T cs := h
theorem Own.below {w w' : World} {g B : Nat} {T : TypeId} {cs : List Value} (h : Own w g T cs) (hb : Below B w w') (hg : g < B) : Own w' g T cs := by
  unfold Own at h ⊢
  rw [hb.block g hg]
  exact h
theorem Own.new (w : World) (T : TypeId) (cs : List Value) : Own (w.alloc (.cells cs.toArray T)) w.heap.size T cs := heap_alloc_new w _
theorem made_one (z : Value) (n : Nat) : madeCells #[z] n = (List.replicate n z).toArray := by
  apply Array.toList_inj.1
  unfold madeCells
  apply List.ext_getElem
  · simp
  · intro i h1 h2
    simp [Nat.mod_one]
theorem Own.made (w : World) (T : TypeId) (z : Value) (n : Nat) : Own (w.alloc (.cells (madeCells #[z] n) T)) w.heap.size T (List.replicate n z) := by
  rw [made_one]
  exact Own.new w T _
theorem below_drewN {B : Nat} {a w : World} (h : Below B a w) (n : Nat) : Below B a (w.drewN n) := h.trans ⟨rfl, rfl, rfl, Nat.le_refl _, fun _ _ => rfl⟩
theorem bcell {B : Nat} {W w1 : World} (hb : Below B W w1) : (∀ b o, b < B → w1.cell? ⟨b, o, none⟩ = W.cell? ⟨b, o, none⟩) ∧ (∀ b o, b < B → w1.frozen? ⟨b, o, none⟩ = W.frozen? ⟨b, o, none⟩) :=
  ⟨fun b o h => hb.cell (p := ⟨b, o, none⟩) h, fun b o h => hb.frozen (p := ⟨b, o, none⟩) h⟩
/-- A cell that can be read lies in a block that is there. -/
theorem lt_of_cell {w : World} {b o : Nat} {v : Value} (h : w.cell? ⟨b, o, none⟩ = some v) : b < w.heap.size := by
  by_cases e : b < w.heap.size
  · exact e
  · simp [World.cell?, Array.getElem?_eq_none (show w.heap.size ≤ b by omega)] at h
end Go.Proofs.Qxb6603020a
