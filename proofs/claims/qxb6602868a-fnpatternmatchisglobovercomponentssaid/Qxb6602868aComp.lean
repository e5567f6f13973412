/-
  'matchComponent' (18).
-/
import Derived.Test.Qxb6602868aWildC
namespace Go.Proofs.Qxb6602868a
open Go.ChangeShapes Go.WideShapes Go.ChangeAt Go.RowKit Pl
set_option linter.unusedVariables false

set_option maxHeartbeats 400000 in
theorem comp_any (p s : ByteArray) (w : World) (hp : p.size ≤ 4096) (hs : s.size ≤ 4096) :
    Calls Try.prog 18 #[.string p, .string s] w fun e w' => e = .returned (.bool (compM p s)) ∧ Below w.heap.size w w' := by
  go_enter Try.func18, Try.ntmps18
  go_wp2_with fail
  refine (wildC p.size s.size w.heap.size (w.heap.size + 1) (starB p) (sameB p s)
    (fun w' => w'.cell? ⟨w.heap.size, 0, none⟩ = some (.string p) ∧ w'.cell? ⟨w.heap.size + 1, 0, none⟩ = some (.string s) ∧ Below w.heap.size w w') _ hp hs ?_ ?_ ?_).mono ?_
  · refine ⟨by go_simp, by go_simp, ?_⟩
    exact ((Below.refl _ _).alloc (Nat.le_refl _) _).alloc (by simp) _
  · intro k wx hk ⟨h1, h2, h3⟩
    refine (c19 p k _ wx hk hp h1).mono ?_
    rintro e w' ⟨rfl, rfl⟩
    exact ⟨rfl, h1, h2, h3⟩
  · intro i j wx hi hj ⟨h1, h2, h3⟩
    refine (c20 p s i j _ _ wx hi hj hp hs h1 h2).mono ?_
    rintro e w' ⟨rfl, q, rfl⟩
    exact ⟨rfl, h1, h2, below_drewN h3 q⟩
  · rintro e w' ⟨rfl, h1, h2, h3⟩
    go_wp2
    go_ret
    exact ⟨rfl, h3⟩
end Go.Proofs.Qxb6602868a
