/-
  A ROW OF BYTES AS A SLICE SEES IT; copyBytes (12): a fresh copy.
-/
import Derived.Test.Qxb6602953aRows
import Derived.Test.Qxb6602953aOwn
import Derived.WalkKit
import Derived.WalkSpells
import Derived.WalkLawsBesides
import Derived.ProofKit
import Derived.Lib.LazyBuf
import Derived.OpenShut
import Derived.Deep.QuietTactic
import Derived.BigQuiet
namespace Go.Proofs.Qxb6602953a
open Go.ChangeShapes Go.WideShapes Go.ChangeAt Go.RowKit
set_option linter.unusedVariables false

/-- A row of bytes, as a slice of 'len' elements sees it. -/
def ByteRow (w : World) (a : Option Addr) (len : Nat) (z : Nat → Int) : Prop :=
  len = 0 ∨ ∃ b off, a = some ⟨b, off, none⟩ ∧ ∀ k, k < len → w.cell? ⟨b, off + k, none⟩ = some (.int .u8 (z k))

theorem ByteRow.below {w w' : World} {a : Option Addr} {len : Nat} {z : Nat → Int} (h : ByteRow w a len z) (hb : Below w.heap.size w w') : ByteRow w' a len z := by
  rcases h with h | ⟨b, off, ha, hc⟩
  · exact .inl h
  · exact .inr ⟨b, off, ha, fun k hk => (hb.cell (p := ⟨b, off + k, none⟩) (lt_of_cell (hc k hk))).trans (hc k hk)⟩

theorem below_step {w W w' : World} (h : Below w.heap.size w W) (hb : Below W.heap.size W w') : Below w.heap.size w w' := h.trans (hb.mono h.size)
theorem ret_int {k : IntKind} {a b : Int} (h : a = b) : Ending.returned (.int k a) = .returned (.int k b) := by rw [h]
theorem ret_bool {a b : Bool} (h : a = b) : Ending.returned (.bool a) = .returned (.bool b) := by rw [h]

theorem Try.info5 : (Try.prog.info? 5).map (fun i => (i.zero, i.size, i.bytes)) = some (some (.int .u8 0), 1, 1) := by kernel_rfl

theorem copy_nil (w : World) : Calls Try.prog 12 #[.slice none 0 0] w fun e w' => e = .returned (.slice none 0 0) ∧ w' = w := by
  have hnil := fun wx => run_eql_slice_nil (P := Try.prog) wx 22 5 none 0 0 Try.underlying22
  go_enter Try.func12, Try.ntmps12
  go_wp2
  go_ret
  exact ⟨rfl, rfl⟩

set_option maxHeartbeats 400000 in
theorem copy_some (x : Addr) (len cap : Nat) (z : Nat → Int) (w : World) (hr : ByteRow w (some x) len z) (hlen : len ≤ 1048576) :
    Calls Try.prog 12 #[.slice (some x) len cap] w fun e w' => e = .returned (.slice (some ⟨w.heap.size, 0, none⟩) len len) ∧ ByteRow w' (some ⟨w.heap.size, 0, none⟩) len z ∧ Below w.heap.size w w' := by
  have hnil := fun wx => run_eql_slice_nil (P := Try.prog) wx 22 5 (some x) len cap Try.underlying22
  have hmk := fun wx => run_make_row' (P := Try.prog) 22 5 (.int .u8 0) 1 Try.underlying22 Try.info5 rfl .i64 .i64 len (by omega) (by omega) wx
  go_enter Try.func12, Try.ntmps12
  go_wp2
  go_loopw [4] (fun i wr => ∃ (k : Nat) (cs : List Value), k ≤ len ∧ i = .int .i64 k ∧ Own wr w.heap.size 5 cs ∧ cs.length = len ∧ (∀ k', k' < k → cs[k']? = some (.int .u8 (z k'))) ∧ Below w.heap.size w wr) (fun i _ => len - (intOf i).toNat)
  case atStart => exact ⟨0, _, Nat.zero_le _, rfl, Own.made w 5 _ len, by simp, fun k' h => absurd h (by omega), (Below.refl _ _).alloc (Nat.le_refl _) _⟩
  case round =>
    obtain ⟨k, cs, hk, rfl, hown, hcl, hcs, hb⟩ := hrel
    by_cases hlt : k < len
    · rcases hr with h0 | ⟨b, off, he, hc⟩
      · omega
      obtain rfl : x = ⟨b, off, none⟩ := by simpa using he
      have h1 := (hb.cell (p := ⟨b, off + k, none⟩) (lt_of_cell (hc k hlt))).trans (hc k hlt)
      have h2 : wr.cell? ⟨w.heap.size, k, none⟩ = some cs[k] := by rw [hown.cell k, List.getElem?_eq_getElem (by omega)]
      have h3 := hown.free k
      have HO : Hid (Own wr w.heap.size 5 cs) := hown
      have HC : Hid (∀ k', k' < k → cs[k']? = some (.int .u8 (z k'))) := hcs
      clear hcs hown hc hmk hnil
      go_wp2
      go_roundw
      case rel =>
        refine ⟨k + 1, cs.set k (.int .u8 (z k)), by omega, by go_num, HO.out.set k _, by simpa using hcl, fun k' hk' => ?_, hb.setCell (Nat.le_refl _) _⟩
        by_cases e : k' = k
        · subst e; rw [List.getElem?_set_self (by omega)]
        · rw [List.getElem?_set_ne (by omega)]; exact HC.out k' (by omega)
      case measure => simp [intOf]; omega
    · obtain rfl : k = len := by omega
      go_wp2
      go_ret
      exact ⟨rfl, .inr ⟨w.heap.size, 0, rfl, fun k' hk' => by rw [Nat.zero_add, hown.cell]; exact hcs k' hk'⟩, hb⟩

/-- The copy, whatever came in. -/
theorem copy_any (a : Option Addr) (len cap : Nat) (z : Nat → Int) (w : World) (hn : a = none → len = 0 ∧ cap = 0) (hr : ByteRow w a len z) (hlen : len ≤ 1048576) :
    Calls Try.prog 12 #[.slice a len cap] w fun e w' => ∃ a' c', e = .returned (.slice a' len c') ∧ ByteRow w' a' len z ∧ Below w.heap.size w w' := by
  cases a with
  | none =>
    obtain ⟨rfl, rfl⟩ := hn rfl
    refine (copy_nil w).mono ?_
    rintro e w' ⟨rfl, rfl⟩
    exact ⟨none, 0, rfl, .inl rfl, Below.refl _ _⟩
  | some x =>
    refine (copy_some x len cap z w hr hlen).mono ?_
    rintro e w' ⟨rfl, h1, h2⟩
    exact ⟨_, _, rfl, h1, h2⟩

/-- From the shell's row of numbers to a row of bytes. -/
theorem byteRow_of {w : World} {a : Option Addr} {len cap : Nat} {zs : List Int}
    (h : (a = none ∧ len = 0 ∧ cap = 0 ∧ zs = []) ∨ ∃ x, a = some x ∧ len ≤ cap ∧ cap ≤ maxLen ∧ zs.length = cap ∧ (∀ i, i < zs.length → w.cell? (x.add i) = some (.int .u8 (zs.getD i 0))) ∧ ∀ n ∈ zs, (Lit.int .u8 n).wf = true) :
    (a = none → len = 0 ∧ cap = 0) ∧ ByteRow w a len (fun k => zs.getD k 0) ∧ (∀ k, 0 ≤ zs.getD k 0 ∧ zs.getD k 0 ≤ 255) ∧ len ≤ maxLen := by
  rcases h with ⟨rfl, rfl, rfl, rfl⟩ | ⟨x, rfl, hl, hm, hz, hcell, hw⟩
  · exact ⟨fun _ => ⟨rfl, rfl⟩, .inl rfl, fun k => by simp, Nat.zero_le _⟩
  · refine ⟨fun h => (by cases h), ?_, fun k => ?_, by omega⟩
    · by_cases h0 : len = 0
      · exact .inl h0
      · obtain ⟨b, off, spot⟩ := x
        have hspot : spot = none := by simpa [Addr.add] using World.cell?_spot (hcell 0 (by omega))
        subst hspot
        exact .inr ⟨b, off, rfl, fun k hk => by rw [← add_plain]; exact hcell k (by omega)⟩
    · by_cases hk : k < zs.length
      · rw [List.getD_eq_getElem?_getD, List.getElem?_eq_getElem hk]
        exact bounds_u8 (hw _ (List.getElem_mem hk))
      · rw [List.getD_eq_getElem?_getD, List.getElem?_eq_none (by omega)]
        simp
end Go.Proofs.Qxb6602953a
