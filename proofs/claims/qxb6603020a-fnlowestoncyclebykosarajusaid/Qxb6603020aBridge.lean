/-
  From the shell's row of numbers to the walk's.
-/
import Derived.Test.Qxb6603020aLaw
import Derived.OpenShut
namespace Go.Proofs.Qxb6603020a
open Go.ChangeShapes Go.WideShapes Go.ChangeAt Go.RowKit Pl

theorem intRow_of {k : IntKind} {w : World} {a : Option Addr} {len cap : Nat} {zs : List Int}
    (h : (a = none ∧ len = 0 ∧ cap = 0 ∧ zs = []) ∨ ∃ x, a = some x ∧ len ≤ cap ∧ cap ≤ maxLen ∧ zs.length = cap ∧ (∀ i, i < zs.length → w.cell? (x.add i) = some (.int k (zs.getD i 0))) ∧ ∀ n ∈ zs, (Lit.int k n).wf = true) :
    (a = none → len = 0 ∧ cap = 0) ∧ IntRow w k a len (fun i => zs.getD i 0) ∧ (∀ n ∈ zs, (Lit.int k n).wf = true) ∧ len ≤ maxLen := by
  rcases h with ⟨rfl, rfl, rfl, rfl⟩ | ⟨x, rfl, hl, hm, hz, hcell, hw⟩
  · exact ⟨fun _ => ⟨rfl, rfl⟩, .inl rfl, fun n h => (nomatch h), Nat.zero_le _⟩
  · refine ⟨fun h => (by cases h), ?_, hw, by omega⟩
    by_cases h0 : len = 0
    · exact .inl h0
    · obtain ⟨b, off, spot⟩ := x
      have hspot : spot = none := by simpa [Addr.add] using World.cell?_spot (hcell 0 (by omega))
      subst hspot
      exact .inr ⟨b, off, rfl, fun k hk => by rw [← add_plain]; exact hcell k (by omega)⟩
theorem range_i32 {zs : List Int} (hw : ∀ n ∈ zs, (Lit.int .i32 n).wf = true) (k : Nat) : -2147483648 ≤ zs.getD k 0 ∧ zs.getD k 0 ≤ 2147483647 := by
  by_cases hk : k < zs.length
  · rw [List.getD_eq_getElem?_getD, List.getElem?_eq_getElem hk]
    exact bounds_i32 (hw _ (List.getElem_mem hk))
  · rw [List.getD_eq_getElem?_getD, List.getElem?_eq_none (by omega)]
    simp
end Go.Proofs.Qxb6603020a
