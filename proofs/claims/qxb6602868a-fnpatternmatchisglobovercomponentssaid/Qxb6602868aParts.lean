/-
  THE CLOSURES OF 'match' (16, 17).
-/
import Derived.Test.Qxb6602868aComp
import Derived.Deep.RegionHeld3
namespace Go.Proofs.Qxb6602868a
open Go.ChangeShapes Go.WideShapes Go.ChangeAt Go.RowKit Pl
set_option linter.unusedVariables false

def starP (f : Nat → ByteArray) (k : Nat) : Bool := (f k).toList == [42, 42]
def sameP (f g : Nat → ByteArray) (i j : Nat) : Bool := compM (f i) (g j)
/-- Do the pattern's parts match the components? -/
def partsM (f g : Nat → ByteArray) (n m : Nat) : Bool := M (starP f) (sameP f g) n m 0 0

theorem c16 (f : Nat → ByteArray) (a : Option Addr) (n c k b : Nat) (w : World) (hk : k < n) (hr : StrRow w a n f) (hc : w.cell? ⟨b, 2, none⟩ = some (.slice a n c)) :
    Calls Try.prog 16 #[.int .i64 k, .pointer (some ⟨b, 0, none⟩)] w fun e w' => e = .returned (.bool (starP f k)) ∧ w' = w := by
  rcases hr with h0 | ⟨d, off, rfl, hr⟩
  · omega
  have h1 := hr k hk
  clear hr
  go_enter Try.func16, Try.ntmps16
  go_wp2
  go_ret
  exact ⟨rfl, rfl⟩

theorem below_step {w W w' : World} (h : Below w.heap.size w W) (hb : Below W.heap.size W w') : Below w.heap.size w w' := h.trans (hb.mono h.size)
theorem mk17 {w w' : World} (h : Below w.heap.size w w') {b c d1 d2 o1 o2 : Nat} {v1 v2 v3 v4 : Value} (hc : w.cell? ⟨b, 2, none⟩ = some v1) (hd : w.cell? ⟨c, 0, none⟩ = some v2) (h1 : w.cell? ⟨d1, o1, none⟩ = some v3) (h2 : w.cell? ⟨d2, o2, none⟩ = some v4) :
    Below w.heap.size w w' ∧ w'.cell? ⟨b, 2, none⟩ = some v1 ∧ w'.cell? ⟨c, 0, none⟩ = some v2 ∧ w'.cell? ⟨d1, o1, none⟩ = some v3 ∧ w'.cell? ⟨d2, o2, none⟩ = some v4 :=
  ⟨h, (h.cell (p := ⟨b, 2, none⟩) (lt_of_cell hc)).trans hc, (h.cell (p := ⟨c, 0, none⟩) (lt_of_cell hd)).trans hd, (h.cell (p := ⟨d1, o1, none⟩) (lt_of_cell h1)).trans h1, (h.cell (p := ⟨d2, o2, none⟩) (lt_of_cell h2)).trans h2⟩

set_option maxHeartbeats 800000 in
theorem c17 (f g : Nat → ByteArray) (a1 a2 : Option Addr) (n m c1 c2 i j b c : Nat) (w : World) (hi : i < n) (hj : j < m) (hn : n ≤ 4096) (hm : m ≤ 4096) (hf : (f i).size ≤ 4096) (hg : (g j).size ≤ 4096)
    (r1 : StrRow w a1 n f) (r2 : StrRow w a2 m g) (hc : w.cell? ⟨b, 2, none⟩ = some (.slice a1 n c1)) (hd : w.cell? ⟨c, 0, none⟩ = some (.slice a2 m c2)) :
    Calls Try.prog 17 #[.int .i64 i, .int .i64 j, .pointer (some ⟨b, 0, none⟩), .pointer (some ⟨c, 0, none⟩)] w fun e w' => e = .returned (.bool (sameP f g i j)) ∧ Below w.heap.size w w' := by
  rcases r1 with h0 | ⟨d1, o1, rfl, r1⟩
  · omega
  rcases r2 with h0 | ⟨d2, o2, rfl, r2⟩
  · omega
  have h1 := r1 i hi
  have h2 := r2 j hj
  have hi' : (i : Int) < (n : Int) := by omega
  have hj' : (j : Int) < (m : Int) := by omega
  have hi0 : (0 : Int) ≤ (i : Int) := by omega
  have hj0 : (0 : Int) ≤ (j : Int) := by omega
  have l1 := lt_of_cell hc
  have l2 := lt_of_cell hd
  have l3 := lt_of_cell h1
  have l4 := lt_of_cell h2
  clear r1 r2
  go_enter Try.func17, Try.ntmps17
  go_wp2_with fail
  go_region_held3 (fun w' => Below w.heap.size w w' ∧ w'.cell? ⟨b, 2, none⟩ = some (.slice (some ⟨d1, o1, none⟩) n c1) ∧ w'.cell? ⟨c, 0, none⟩ = some (.slice (some ⟨d2, o2, none⟩) m c2) ∧ w'.cell? ⟨d1, o1 + i, none⟩ = some (.string (f i)) ∧ w'.cell? ⟨d2, o2 + j, none⟩ = some (.string (g j))) (first | exact ⟨(Below.refl _ _).drew, hc, hd, h1, h2⟩ | exact mk17 (by assumption) hc hd h1 h2) (first | (go_at_call 18; refine (comp_any _ _ _ hf hg).mono ?_; rintro e w' ⟨rfl, hb⟩; have hb' := below_step (w := w) (Below.refl _ w).drew hb))
  all_goals go_wp2
  all_goals go_ret
  all_goals exact ⟨rfl, by assumption⟩
end Go.Proofs.Qxb6602868a
