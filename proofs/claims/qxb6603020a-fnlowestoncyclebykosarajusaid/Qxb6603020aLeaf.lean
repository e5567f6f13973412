/-
  zzCopyInts (11), zzCopyInt32s (29), zzBytes (28), zzLooseCSR (26).
-/
import Derived.Test.Qxb6603020aRows
import Derived.Test.Qxb6603020aOwn
import Derived.Test.Qxb6603020aCsr
import Derived.WalkKit
import Derived.WalkSpells
import Derived.WalkLawsBesides
import Derived.ProofKit
import Derived.Lib.LazyBuf
import Derived.Deep.QuietTactic
import Derived.BigQuiet
namespace Go.Proofs.Qxb6603020a
open Go.ChangeShapes Go.WideShapes Go.ChangeAt Go.RowKit Pl
set_option linter.unusedVariables false

/-- A row of numbers, as a slice of 'len' elements sees it. -/
def IntRow (w : World) (k : IntKind) (a : Option Addr) (len : Nat) (z : Nat → Int) : Prop :=
  len = 0 ∨ ∃ b off, a = some ⟨b, off, none⟩ ∧ ∀ i, i < len → w.cell? ⟨b, off + i, none⟩ = some (.int k (z i))
theorem IntRow.below {w w' : World} {k : IntKind} {a : Option Addr} {len : Nat} {z : Nat → Int} (h : IntRow w k a len z) (hb : Below w.heap.size w w') : IntRow w' k a len z := by
  rcases h with h | ⟨b, off, ha, hc⟩
  · exact .inl h
  · exact .inr ⟨b, off, ha, fun k hk => (hb.cell (p := ⟨b, off + k, none⟩) (lt_of_cell (hc k hk))).trans (hc k hk)⟩
theorem Try.info3' : (Try.prog.info? 3).map (fun i => (i.zero, i.size, i.bytes)) = some (some (.int .i64 0), 1, 8) := by kernel_rfl
theorem Try.info21' : (Try.prog.info? 21).map (fun i => (i.zero, i.size, i.bytes)) = some (some (.int .i32 0), 1, 4) := by kernel_rfl

theorem ints_nil (w : World) : Calls Try.prog 11 #[.slice none 0 0] w fun e w' => e = .returned (.slice none 0 0) ∧ w' = w := by
  have hnil := fun wx => run_eql_slice_nil (P := Try.prog) wx 22 3 none 0 0 Try.underlying22
  go_enter Try.func11, Try.ntmps11
  go_wp2
  go_ret
  exact ⟨rfl, rfl⟩
set_option maxHeartbeats 400000 in
theorem ints_some (x : Addr) (len cap : Nat) (z : Nat → Int) (w : World) (hr : IntRow w .i64 (some x) len z) (hlen : len ≤ 65536) :
    Calls Try.prog 11 #[.slice (some x) len cap] w fun e w' => e = .returned (.slice (some ⟨w.heap.size, 0, none⟩) len len) ∧ IntRow w' .i64 (some ⟨w.heap.size, 0, none⟩) len z ∧ Below w.heap.size w w' := by
  have hnil := fun wx => run_eql_slice_nil (P := Try.prog) wx 22 3 (some x) len cap Try.underlying22
  have hmk := fun wx => run_make_row' (P := Try.prog) 22 3 (.int .i64 0) 8 Try.underlying22 Try.info3' rfl .i64 .i64 len (by omega) (by omega) wx
  go_enter Try.func11, Try.ntmps11
  go_wp2
  go_loopw [4] (fun i wr => ∃ (k : Nat) (cs : List Value), k ≤ len ∧ i = .int .i64 k ∧ Own wr w.heap.size 3 cs ∧ cs.length = len ∧ (∀ k', k' < k → cs[k']? = some (.int .i64 (z k'))) ∧ Below w.heap.size w wr) (fun i _ => len - (intOf i).toNat)
  case atStart => exact ⟨0, _, Nat.zero_le _, rfl, Own.made w 3 _ len, by simp, fun k' h => absurd h (by omega), (Below.refl _ _).alloc (Nat.le_refl _) _⟩
  case round =>
    obtain ⟨k, cs, hk, rfl, hown, hcl, hcs, hb⟩ := hrel
    by_cases hlt : k < len
    · rcases hr with h0 | ⟨b, off, he, hc⟩
      · omega
      obtain rfl : x = ⟨b, off, none⟩ := by simpa using he
      have h1 := (hb.cell (p := ⟨b, off + k, none⟩) (lt_of_cell (hc k hlt))).trans (hc k hlt)
      have h2 : wr.cell? ⟨w.heap.size, k, none⟩ = some cs[k] := by rw [hown.cell k, List.getElem?_eq_getElem (by omega)]
      have h3 := hown.free k
      have HO : Hid (Own wr w.heap.size 3 cs) := hown
      have HC : Hid (∀ k', k' < k → cs[k']? = some (.int .i64 (z k'))) := hcs
      clear hcs hown hc hmk hnil
      go_wp2
      go_roundw
      case rel =>
        refine ⟨k + 1, cs.set k (.int .i64 (z k)), by omega, by go_num, HO.out.set k _, by simpa using hcl, fun k' hk' => ?_, hb.setCell (Nat.le_refl _) _⟩
        by_cases e : k' = k
        · subst e; rw [List.getElem?_set_self (by omega)]
        · rw [List.getElem?_set_ne (by omega)]; exact HC.out k' (by omega)
      case measure => simp [intOf]; omega
    · obtain rfl : k = len := by omega
      go_wp2
      go_ret
      exact ⟨rfl, .inr ⟨w.heap.size, 0, rfl, fun k' hk' => by rw [Nat.zero_add, hown.cell]; exact hcs k' hk'⟩, hb⟩
/-- What a copy looks like. -/
def Fresh (a : Option Addr) (len c : Nat) : Prop := (a = none ∧ len = 0 ∧ c = 0) ∨ ∃ b, a = some ⟨b, 0, none⟩ ∧ c = len
/-- The copy, whatever came in. -/
theorem ints_any (a : Option Addr) (len cap : Nat) (z : Nat → Int) (w : World) (hn : a = none → len = 0 ∧ cap = 0) (hr : IntRow w .i64 a len z) (hlen : len ≤ 65536) :
    Calls Try.prog 11 #[.slice a len cap] w fun e w' => ∃ a' c', e = .returned (.slice a' len c') ∧ Fresh a' len c' ∧ IntRow w' .i64 a' len z ∧ Below w.heap.size w w' := by
  cases a with
  | none =>
    obtain ⟨rfl, rfl⟩ := hn rfl
    refine (ints_nil w).mono ?_
    rintro e w' ⟨rfl, rfl⟩
    exact ⟨none, 0, rfl, .inl ⟨rfl, rfl, rfl⟩, .inl rfl, Below.refl _ _⟩
  | some x =>
    refine (ints_some x len cap z w hr hlen).mono ?_
    rintro e w' ⟨rfl, h1, h2⟩
    exact ⟨_, _, rfl, .inr ⟨_, rfl, rfl⟩, h1, h2⟩
theorem ints32_nil (w : World) : Calls Try.prog 29 #[.slice none 0 0] w fun e w' => e = .returned (.slice none 0 0) ∧ w' = w := by
  have hnil := fun wx => run_eql_slice_nil (P := Try.prog) wx 37 21 none 0 0 Try.underlying37
  go_enter Try.func29, Try.ntmps29
  go_wp2
  go_ret
  exact ⟨rfl, rfl⟩
set_option maxHeartbeats 400000 in
theorem ints32_some (x : Addr) (len cap : Nat) (z : Nat → Int) (w : World) (hr : IntRow w .i32 (some x) len z) (hlen : len ≤ 65536) :
    Calls Try.prog 29 #[.slice (some x) len cap] w fun e w' => e = .returned (.slice (some ⟨w.heap.size, 0, none⟩) len len) ∧ IntRow w' .i32 (some ⟨w.heap.size, 0, none⟩) len z ∧ Below w.heap.size w w' := by
  have hnil := fun wx => run_eql_slice_nil (P := Try.prog) wx 37 21 (some x) len cap Try.underlying37
  have hmk := fun wx => run_make_row' (P := Try.prog) 37 21 (.int .i32 0) 4 Try.underlying37 Try.info21' rfl .i64 .i64 len (by omega) (by omega) wx
  go_enter Try.func29, Try.ntmps29
  go_wp2
  go_loopw [4] (fun i wr => ∃ (k : Nat) (cs : List Value), k ≤ len ∧ i = .int .i64 k ∧ Own wr w.heap.size 21 cs ∧ cs.length = len ∧ (∀ k', k' < k → cs[k']? = some (.int .i32 (z k'))) ∧ Below w.heap.size w wr) (fun i _ => len - (intOf i).toNat)
  case atStart => exact ⟨0, _, Nat.zero_le _, rfl, Own.made w 21 _ len, by simp, fun k' h => absurd h (by omega), (Below.refl _ _).alloc (Nat.le_refl _) _⟩
  case round =>
    obtain ⟨k, cs, hk, rfl, hown, hcl, hcs, hb⟩ := hrel
    by_cases hlt : k < len
    · rcases hr with h0 | ⟨b, off, he, hc⟩
      · omega
      obtain rfl : x = ⟨b, off, none⟩ := by simpa using he
      have h1 := (hb.cell (p := ⟨b, off + k, none⟩) (lt_of_cell (hc k hlt))).trans (hc k hlt)
      have h2 : wr.cell? ⟨w.heap.size, k, none⟩ = some cs[k] := by rw [hown.cell k, List.getElem?_eq_getElem (by omega)]
      have h3 := hown.free k
      have HO : Hid (Own wr w.heap.size 21 cs) := hown
      have HC : Hid (∀ k', k' < k → cs[k']? = some (.int .i32 (z k'))) := hcs
      clear hcs hown hc hmk hnil
      go_wp2
      go_roundw
      case rel =>
        refine ⟨k + 1, cs.set k (.int .i32 (z k)), by omega, by go_num, HO.out.set k _, by simpa using hcl, fun k' hk' => ?_, hb.setCell (Nat.le_refl _) _⟩
        by_cases e : k' = k
        · subst e; rw [List.getElem?_set_self (by omega)]
        · rw [List.getElem?_set_ne (by omega)]; exact HC.out k' (by omega)
      case measure => simp [intOf]; omega
    · obtain rfl : k = len := by omega
      go_wp2
      go_ret
      exact ⟨rfl, .inr ⟨w.heap.size, 0, rfl, fun k' hk' => by rw [Nat.zero_add, hown.cell]; exact hcs k' hk'⟩, hb⟩
/-- The copy, whatever came in. -/
theorem ints32_any (a : Option Addr) (len cap : Nat) (z : Nat → Int) (w : World) (hn : a = none → len = 0 ∧ cap = 0) (hr : IntRow w .i32 a len z) (hlen : len ≤ 65536) :
    Calls Try.prog 29 #[.slice a len cap] w fun e w' => ∃ a' c', e = .returned (.slice a' len c') ∧ Fresh a' len c' ∧ IntRow w' .i32 a' len z ∧ Below w.heap.size w w' := by
  cases a with
  | none =>
    obtain ⟨rfl, rfl⟩ := hn rfl
    refine (ints32_nil w).mono ?_
    rintro e w' ⟨rfl, rfl⟩
    exact ⟨none, 0, rfl, .inl ⟨rfl, rfl, rfl⟩, .inl rfl, Below.refl _ _⟩
  | some x =>
    refine (ints32_some x len cap z w hr hlen).mono ?_
    rintro e w' ⟨rfl, h1, h2⟩
    exact ⟨_, _, rfl, .inr ⟨_, rfl, rfl⟩, h1, h2⟩

/-- It returns a bool. -/
def IsBool (e : Ending) : Prop := ∃ b : Bool, e = .returned (.bool b)
set_option maxHeartbeats 1000000 in
theorem bytes_any (a1 a2 a3 a4 a5 : Option Addr) (l1 c1 l2 c2 l3 c3 l4 c4 l5 c5 : Nat) (w : World) (n1 : l1 ≤ maxLen) (n2 : l2 ≤ maxLen) (n3 : l3 ≤ maxLen) (n4 : l4 ≤ maxLen) (n5 : l5 ≤ maxLen) :
    Calls Try.prog 28 #[.slice a1 l1 c1, .slice a2 l2 c2, .slice a3 l3 c3, .slice a4 l4 c4, .slice a5 l5 c5] w fun e w' => IsBool e ∧ w' = w := by
  unfold maxLen at *
  go_enter Try.func28, Try.ntmps28
  go_wp2
  all_goals (go_ret; exact ⟨⟨_, rfl⟩, rfl⟩)

/-- What zzLooseCSR asks, as a plain sentence. -/
structure Loose (n : Nat) (lo la : Nat) (zo za : Nat → Int) : Prop where
  len : n < la
  first : 0 ≤ za 0
  last : za n ≤ lo
  mono : ∀ v, v < n → za v ≤ za (v + 1)
  tg : ∀ e : Nat, za 0 ≤ e → (e : Int) < za n → 0 ≤ zo e ∧ zo e < n
/-- It returns true only at a graph that is loosely well-formed. -/
def LooseRet (e : Ending) (P : Prop) : Prop := ∃ b : Bool, e = .returned (.bool b) ∧ (b = true → P)
end Go.Proofs.Qxb6603020a
