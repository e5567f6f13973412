/-
  THE LAW's OWN WALK: 'FnPatternMatchIsGlobOverComponents' (3) returns true.
-/
import Derived.Test.Qxb6602868aTabP
namespace Go.Proofs.Qxb6602868a
open Go.ChangeShapes Go.WideShapes Go.ChangeAt Go.RowKit Pl
set_option linter.unusedVariables false

set_option maxHeartbeats 1600000 in
theorem law (x y : ByteArray) (a1 : Option Addr) (l1 c1 : Nat) (f : Nat → ByteArray) (a2 : Option Addr) (l2 c2 : Nat) (g : Nat → ByteArray) (w : World)
    (hx : x.size ≤ maxLen) (hy : y.size ≤ maxLen) (z1 : a1 = none → l1 = 0 ∧ c1 = 0) (r1 : StrRow w a1 l1 f) (s1 : ∀ k, (f k).size ≤ maxLen) (n1 : l1 ≤ maxLen)
    (z2 : a2 = none → l2 = 0 ∧ c2 = 0) (r2 : StrRow w a2 l2 g) (s2 : ∀ k, (g k).size ≤ maxLen) (n2 : l2 ≤ maxLen) :
    Calls Try.prog 3 #[.string x, .string y, .slice a1 l1 c1, .slice a2 l2 c2] w fun e w' => e = .returned (.bool true) ∧ Below w.heap.size w w' := by
  have hx' : (x.size : Int) ≤ 9223372036854775807 := by unfold maxLen at hx; omega
  have hy' : (y.size : Int) ≤ 9223372036854775807 := by unfold maxLen at hy; omega
  have Z1 : Hid (a1 = none → l1 = 0 ∧ c1 = 0) := z1
  have Z2 : Hid (a2 = none → l2 = 0 ∧ c2 = 0) := z2
  have S1 : Hid (∀ k, (f k).size ≤ maxLen) := s1
  have S2 : Hid (∀ k, (g k).size ≤ maxLen) := s2
  have R1 : Hid (StrRow w a1 l1 f) := r1
  have R2 : Hid (StrRow w a2 l2 g) := r2
  clear z1 z2 s1 s2 r1 r2
  go_enter Try.func3, Try.ntmps3
  go_wp2_with fail
  refine (bytes_any x y a1 l1 c1 f a2 l2 c2 g _ hx hy R1.out S1.out n1 R2.out S2.out n2).mono ?_
  rintro e w1 ⟨⟨b, rfl⟩, rfl⟩
  cases b with
  | false =>
    go_wp2
    go_ret
    exact ⟨rfl, Below.refl _ _⟩
  | true =>
    go_wp2_with fail
    refine (add_any 0 x.size _ (by omega) (by omega) (by omega) hx').mono ?_
    rintro e w2 ⟨⟨t1, p1, p2, p3, rfl⟩, rfl⟩
    go_wp2_with fail
    refine (add_any t1 y.size _ p1 (by omega) (by omega) hy').mono ?_
    rintro e w3 ⟨⟨t2, p4, p5, p6, rfl⟩, rfl⟩
    clear p3 p6
    go_wp2_with fail
    refine (strs_any t2 a1 l1 c1 f _ p4 p5 R1.out S1.out n1).mono ?_
    rintro e w4 ⟨⟨t3, p7, p8, p9, rfl⟩, rfl⟩
    have P9 := p9
    clear p9
    go_wp2_with fail
    refine (strs_any t3 a2 l2 c2 g _ p7 p8 R2.out S2.out n2).mono ?_
    rintro e w5 ⟨⟨t4, p10, p11, p12, rfl⟩, rfl⟩
    by_cases hbig : 4096 < t4
    · clear P9 p12
      go_wp2_with fail
      go_ret
      exact ⟨rfl, Below.refl _ _⟩
    · obtain ⟨b1, b2, b3⟩ := p12 (by omega)
      obtain ⟨d1, d2, d3⟩ := P9 b1
      have B3 : Hid (∀ k, k < l2 → (g k).size ≤ 4096) := b3
      have D3 : Hid (∀ k, k < l1 → (f k).size ≤ 4096) := d3
      clear P9 p12 b3 d3
      go_wp2_with fail
      refine (clone_any a1 l1 c1 f _ Z1.out R1.out (by omega)).mono ?_
      rintro e w6 ⟨a3, c3, rfl, r3, hb1⟩
      go_wp2_with fail
      refine (clone_any a2 l2 c2 g _ Z2.out (R2.out.below hb1) (by omega)).mono ?_
      rintro e w7 ⟨a4, c4, rfl, r4, hb2⟩
      go_wp2_with fail
      refine (zznew_any x y a3 l1 c3 _).mono ?_
      rintro e w8 ⟨rfl, hb3⟩
      have HB : Hid (Below _ _ w8) := below_step (below_step hb1 hb2) hb3
      have R3 : Hid (StrRow w8 a3 l1 f) := (r3.below hb2).below hb3
      have R4 : Hid (StrRow w8 a4 l2 g) := r4.below hb3
      clear r3 r4 hb1 hb2 hb3
      go_wp2_with fail
      have hb4 : Below w8.heap.size w8 (w8.alloc (.cells #[.string x, .string y, .slice a3 l1 c3] 28)) := (Below.refl _ _).alloc (Nat.le_refl _) _
      refine (zzmatch_any x y f g a3 a4 l1 l2 c3 c4 _ (by omega) (by omega) D3.out B3.out (R3.out.below hb4) (R4.out.below hb4)).mono ?_
      rintro e w9 ⟨rfl, hb5⟩
      have hb6 := below_step hb4 hb5
      go_wp2_with fail
      refine (tabP f g a3 a4 l1 l2 c3 c4 _ (by omega) (by omega) D3.out B3.out (R3.out.below hb6) (R4.out.below hb6)).mono ?_
      rintro e w10 ⟨rfl, hb7⟩
      have hb8 := below_step HB.out (below_step hb6 hb7)
      clear hb4 hb5 hb6 hb7
      go_wp2_with fail
      go_ret
      exact ⟨ret_bool (by simp), hb8⟩
end Go.Proofs.Qxb6602868a
