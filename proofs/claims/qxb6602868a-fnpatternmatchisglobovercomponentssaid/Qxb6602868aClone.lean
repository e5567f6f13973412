/-
  zzCloneStrings (8): a fresh copy.
-/
import Derived.Test.Qxb6602868aLeaf
import Derived.Test.Qxb6602868aOwn
import Derived.Lib.LazyBuf
namespace Go.Proofs.Qxb6602868a
open Go.ChangeShapes Go.WideShapes Go.ChangeAt Go.RowKit

theorem StrRow.below {w w' : World} {a : Option Addr} {len : Nat} {sf : Nat → ByteArray} (h : StrRow w a len sf) (hb : Below w.heap.size w w') : StrRow w' a len sf := by
  rcases h with h | ⟨b, off, ha, hc⟩
  · exact .inl h
  · exact .inr ⟨b, off, ha, fun k hk => (hb.cell (p := ⟨b, off + k, none⟩) (lt_of_cell (hc k hk))).trans (hc k hk)⟩

theorem Try.info9 : (Try.prog.info? 9).map (fun i => (i.zero, i.size, i.bytes)) = some (some (.string ⟨#[]⟩), 1, 16) := by kernel_rfl
theorem Try.info4 : (Try.prog.info? 4).map (fun i => (i.zero, i.size, i.bytes)) = some (some (.bool false), 1, 1) := by kernel_rfl

theorem clone_nil (w : World) : Calls Try.prog 8 #[.slice none 0 0] w fun e w' => e = .returned (.slice none 0 0) ∧ w' = w := by
  have hnil := fun wx => run_eql_slice_nil (P := Try.prog) wx 22 9 none 0 0 Try.underlying22
  go_enter Try.func8, Try.ntmps8
  go_wp2
  go_ret
  exact ⟨rfl, rfl⟩

set_option maxHeartbeats 400000 in
theorem clone_some (x : Addr) (len cap : Nat) (sf : Nat → ByteArray) (w : World) (hr : StrRow w (some x) len sf) (hlen : len ≤ 4096) :
    Calls Try.prog 8 #[.slice (some x) len cap] w fun e w' => e = .returned (.slice (some ⟨w.heap.size, 0, none⟩) len len) ∧ StrRow w' (some ⟨w.heap.size, 0, none⟩) len sf ∧ Below w.heap.size w w' := by
  have hnil := fun wx => run_eql_slice_nil (P := Try.prog) wx 22 9 (some x) len cap Try.underlying22
  have hmk := fun wx => run_make_row' (P := Try.prog) 22 9 (.string ⟨#[]⟩) 16 Try.underlying22 Try.info9 rfl .i64 .i64 len (by omega) (by omega) wx
  go_enter Try.func8, Try.ntmps8
  go_wp2
  go_loopw [4] (fun i wr => ∃ (k : Nat) (cs : List Value), k ≤ len ∧ i = .int .i64 k ∧ Own wr w.heap.size 9 cs ∧ cs.length = len ∧ (∀ k', k' < k → cs[k']? = some (.string (sf k'))) ∧ Below w.heap.size w wr) (fun i _ => len - (intOf i).toNat)
  case atStart => exact ⟨0, _, Nat.zero_le _, rfl, Own.made w 9 _ len, by simp, fun k' h => absurd h (by omega), (Below.refl _ _).alloc (Nat.le_refl _) _⟩
  case round =>
    obtain ⟨k, cs, hk, rfl, hown, hcl, hcs, hb⟩ := hrel
    by_cases hlt : k < len
    · rcases hr with h0 | ⟨b, off, he, hc⟩
      · omega
      obtain rfl : x = ⟨b, off, none⟩ := by simpa using he
      have h1 := (hb.cell (p := ⟨b, off + k, none⟩) (lt_of_cell (hc k hlt))).trans (hc k hlt)
      have h2 : wr.cell? ⟨w.heap.size, k, none⟩ = some cs[k] := by rw [hown.cell k, List.getElem?_eq_getElem (by omega)]
      have h3 := hown.free k
      have HO : Hid (Own wr w.heap.size 9 cs) := hown
      have HC : Hid (∀ k', k' < k → cs[k']? = some (.string (sf k'))) := hcs
      clear hcs hown hc hmk hnil
      go_wp2
      go_roundw
      case rel =>
        refine ⟨k + 1, cs.set k (.string (sf k)), by omega, by go_num, HO.out.set k _, by simpa using hcl, fun k' hk' => ?_, hb.setCell (Nat.le_refl _) _⟩
        by_cases e : k' = k
        · subst e; rw [List.getElem?_set_self (by omega)]
        · rw [List.getElem?_set_ne (by omega)]; exact HC.out k' (by omega)
      case measure => simp [intOf]; omega
    · obtain rfl : k = len := by omega
      go_wp2
      go_ret
      exact ⟨rfl, .inr ⟨w.heap.size, 0, rfl, fun k' hk' => by rw [Nat.zero_add, hown.cell]; exact hcs k' hk'⟩, hb⟩

/-- The copy, whatever came in. -/
theorem clone_any (a : Option Addr) (len cap : Nat) (sf : Nat → ByteArray) (w : World) (hn : a = none → len = 0 ∧ cap = 0) (hr : StrRow w a len sf) (hlen : len ≤ 4096) :
    Calls Try.prog 8 #[.slice a len cap] w fun e w' => ∃ a' c', e = .returned (.slice a' len c') ∧ StrRow w' a' len sf ∧ Below w.heap.size w w' := by
  cases a with
  | none =>
    obtain ⟨rfl, rfl⟩ := hn rfl
    refine (clone_nil w).mono ?_
    rintro e w' ⟨rfl, rfl⟩
    exact ⟨none, 0, rfl, .inl rfl, Below.refl _ _⟩
  | some x =>
    refine (clone_some x len cap sf w hr hlen).mono ?_
    rintro e w' ⟨rfl, h1, h2⟩
    exact ⟨_, _, rfl, h1, h2⟩
end Go.Proofs.Qxb6602868a
