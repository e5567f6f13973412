/-
  'match' (13), 'ZZMatchB1' (10), 'ZZNewPatternB1' (9).
-/
import Derived.Test.Qxb6602868aWildP
namespace Go.Proofs.Qxb6602868a
open Go.ChangeShapes Go.WideShapes Go.ChangeAt Go.RowKit Pl
set_option linter.unusedVariables false

set_option maxHeartbeats 400000 in
theorem match_any (x y : ByteArray) (f g : Nat → ByteArray) (a1 a2 : Option Addr) (n m c1 c2 : Nat) (w : World) (hn : n ≤ 4096) (hm : m ≤ 4096) (hf : ∀ k, k < n → (f k).size ≤ 4096) (hg : ∀ k, k < m → (g k).size ≤ 4096)
    (r1 : StrRow w a1 n f) (r2 : StrRow w a2 m g) :
    Calls Try.prog 13 #[.agg #[.string x, .string y, .slice a1 n c1], .slice a2 m c2] w fun e w' => e = .returned (.bool (partsM f g n m)) ∧ Below w.heap.size w w' := by
  go_enter Try.func13, Try.ntmps13
  go_wp2_with fail
  have hb0 : Below w.heap.size w ((w.alloc (.cells #[.string x, .string y, .slice a1 n c1] 28)).alloc (.cells #[.slice a2 m c2] 22)) := ((Below.refl _ _).alloc (Nat.le_refl _) _).alloc (by simp) _
  refine (wildP n m w.heap.size (w.heap.size + 1) (starP f) (sameP f g)
    (fun w' => w'.cell? ⟨w.heap.size, 2, none⟩ = some (.slice a1 n c1) ∧ w'.cell? ⟨w.heap.size + 1, 0, none⟩ = some (.slice a2 m c2) ∧ Below w.heap.size w w') _ hn hm ?_ ?_ ?_).mono ?_
  · exact ⟨by go_simp, by go_simp, hb0⟩
  · intro k wx hk ⟨h1, h2, h3⟩
    refine (c16 f a1 n c1 k _ wx hk (r1.below h3) h1).mono ?_
    rintro e w' ⟨rfl, rfl⟩
    exact ⟨rfl, h1, h2, h3⟩
  · intro i j wx hi hj ⟨h1, h2, h3⟩
    refine (c17 f g a1 a2 n m c1 c2 i j _ _ wx hi hj hn hm (hf i hi) (hg j hj) (r1.below h3) (r2.below h3) h1 h2).mono ?_
    rintro e w' ⟨rfl, hb⟩
    exact ⟨rfl, (hb.cell (p := ⟨w.heap.size, 2, none⟩) (lt_of_cell h1)).trans h1, (hb.cell (p := ⟨w.heap.size + 1, 0, none⟩) (lt_of_cell h2)).trans h2, below_step h3 hb⟩
  · rintro e w' ⟨rfl, h1, h2, h3⟩
    go_wp2
    go_ret
    exact ⟨rfl, h3⟩

theorem zzmatch_any (x y : ByteArray) (f g : Nat → ByteArray) (a1 a2 : Option Addr) (n m c1 c2 : Nat) (w : World) (hn : n ≤ 4096) (hm : m ≤ 4096) (hf : ∀ k, k < n → (f k).size ≤ 4096) (hg : ∀ k, k < m → (g k).size ≤ 4096)
    (r1 : StrRow w a1 n f) (r2 : StrRow w a2 m g) :
    Calls Try.prog 10 #[.agg #[.string x, .string y, .slice a1 n c1], .slice a2 m c2] w fun e w' => e = .returned (.bool (partsM f g n m)) ∧ Below w.heap.size w w' := by
  have hb0 : Below w.heap.size w (w.alloc (.cells #[.string x, .string y, .slice a1 n c1] 28)) := (Below.refl _ _).alloc (Nat.le_refl _) _
  go_enter Try.func10, Try.ntmps10
  go_wp2_with fail
  refine (match_any x y f g a1 a2 n m c1 c2 _ hn hm hf hg (r1.below hb0) (r2.below hb0)).mono ?_
  rintro e w' ⟨rfl, hb⟩
  have hb1 := below_step hb0 hb
  go_wp2
  go_ret
  exact ⟨rfl, hb1⟩

theorem res9 (tmps : Array Value) (w : World) (a0 a1 a2 : Value) (h6 : tmps[6]?.getD undef = .pointer (some ⟨w.heap.size, 0, none⟩)) :
    (results Try.f9 tmps).run Try.prog (w.alloc (.cells #[a0, a1, a2] 28)) = .ok (.agg #[a0, a1, a2]) (w.alloc (.cells #[a0, a1, a2] 28)) := by
  simp only [results, Try.results9]
  simp [go_sem, h6]
theorem zznew_any (x y : ByteArray) (a : Option Addr) (n c : Nat) (w : World) :
    Calls Try.prog 9 #[.string x, .string y, .slice a n c] w fun e w' => e = .returned (.agg #[.string x, .string y, .slice a n c]) ∧ Below w.heap.size w w' := by
  go_enter Try.func9, Try.ntmps9
  go_wp2
  exact bodyPost_ret (res9 _ _ _ _ _ rfl) rfl ⟨rfl, (Below.refl _ _).alloc (Nat.le_refl _) _⟩
end Go.Proofs.Qxb6602868a
