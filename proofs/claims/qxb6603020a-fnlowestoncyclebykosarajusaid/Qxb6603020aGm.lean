/-
  The graph in memory; small facts of this program.
-/
import Derived.Test.Qxb6603020aRows
import Derived.Test.Qxb6603020aKmem
import Derived.WalkKit
import Derived.WalkSpells
import Derived.WalkLawsBesides
import Derived.ProofKit
namespace Go.Proofs.Qxb6603020a
open Go.ChangeShapes Go.WideShapes Go.ChangeAt Go.RowKit Pl
set_option linter.unusedVariables false

theorem Try.info3 : (Try.prog.info? 3).map (fun i => (i.zero, i.size, i.bytes)) = some (some (.int .i64 0), 1, 8) := by kernel_rfl
theorem Try.info4 : (Try.prog.info? 4).map (fun i => (i.zero, i.size, i.bytes)) = some (some (.bool false), 1, 1) := by kernel_rfl
theorem Try.info21 : (Try.prog.info? 21).map (fun i => (i.zero, i.size, i.bytes)) = some (some (.int .i32 0), 1, 4) := by kernel_rfl

theorem fresh_cell (w : World) (v : Value) (T : TypeId) : (w.alloc (.cells #[v] T)).cell? ⟨w.heap.size, 0, none⟩ = some v := by go_simp
theorem fresh_cellN (w : World) (q : Nat) (v : Value) (T : TypeId) : ((w.drewN q).alloc (.cells #[v] T)).cell? ⟨w.heap.size, 0, none⟩ = some v := fresh_cell (w.drewN q) v T

/-- The graph in memory: the targets and the offsets, below block B. -/
structure GM (w : World) (B : Nat) (ao : Option Addr) (lo : Nat) (aa : Option Addr) (la : Nat) (n : Nat) (out pos : Nat → Nat) : Prop where
  csr : Csr n out pos
  small : n ≤ 4096 ∧ lo ≤ 65536 ∧ la ≤ 8192
  lens : 0 < n → n < la ∧ pos n ≤ lo
  at_ : 0 < n → ∃ b o, aa = some ⟨b, o, none⟩ ∧ b < B ∧ ∀ v, v ≤ n → w.cell? ⟨b, o + v, none⟩ = some (.int .i64 (pos v))
  out_ : 0 < n → ∀ e, pos 0 ≤ e → e < pos n → ∃ b o, ao = some ⟨b, o, none⟩ ∧ b < B ∧ w.cell? ⟨b, o + e, none⟩ = some (.int .i32 (out e))
end Go.Proofs.Qxb6603020a
