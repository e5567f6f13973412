/-
  THE LAW's OWN WALK: 'FnLowestOnCycleByKosaraju' (7) returns true.
-/
import Derived.Test.Qxb6603020aZz
import Derived.Test.Qxb6603020aKwalk
namespace Go.Proofs.Qxb6603020a
open Go.ChangeShapes Go.WideShapes Go.ChangeAt Go.RowKit Pl
set_option linter.unusedVariables false

theorem below_step {w W w' : World} (h : Below w.heap.size w W) (hb : Below W.heap.size W w') : Below w.heap.size w w' := h.trans (hb.mono h.size)

set_option maxHeartbeats 1600000 in
theorem law (a0 : Option Addr) (l0 c0 : Nat) (z0 : Nat → Int) (a1 : Option Addr) (l1 c1 : Nat) (z1 : Nat → Int) (a2 : Option Addr) (l2 c2 : Nat) (z2 : Nat → Int) (a3 : Option Addr) (l3 c3 : Nat) (z3 : Nat → Int) (a4 : Option Addr) (l4 c4 : Nat) (z4 : Nat → Int) (w : World)
    (m0 : l0 ≤ maxLen) (m1 : l1 ≤ maxLen) (m2 : l2 ≤ maxLen) (m3 : l3 ≤ maxLen) (m4 : l4 ≤ maxLen)
    (e0 : a0 = none → l0 = 0 ∧ c0 = 0) (e1 : a1 = none → l1 = 0 ∧ c1 = 0) (e2 : a2 = none → l2 = 0 ∧ c2 = 0) (e3 : a3 = none → l3 = 0 ∧ c3 = 0) (e4 : a4 = none → l4 = 0 ∧ c4 = 0)
    (r0 : IntRow w .i64 a0 l0 z0) (r1 : IntRow w .i32 a1 l1 z1) (r2 : IntRow w .i32 a2 l2 z2) (r3 : IntRow w .i64 a3 l3 z3) (r4 : IntRow w .i64 a4 l4 z4) (hz : ∀ k, -2147483648 ≤ z1 k ∧ z1 k ≤ 2147483647) :
    Calls Try.prog 7 #[.slice a0 l0 c0, .slice a1 l1 c1, .slice a2 l2 c2, .slice a3 l3 c3, .slice a4 l4 c4] w fun e w' => e = .returned (.bool true) ∧ Below w.heap.size w w' := by
  have E : Hid ((a0 = none → l0 = 0 ∧ c0 = 0) ∧ (a1 = none → l1 = 0 ∧ c1 = 0) ∧ (a2 = none → l2 = 0 ∧ c2 = 0) ∧ (a3 = none → l3 = 0 ∧ c3 = 0) ∧ (a4 = none → l4 = 0 ∧ c4 = 0)) := ⟨e0, e1, e2, e3, e4⟩
  have R : Hid (IntRow w .i64 a0 l0 z0 ∧ IntRow w .i32 a1 l1 z1 ∧ IntRow w .i32 a2 l2 z2 ∧ IntRow w .i64 a3 l3 z3 ∧ IntRow w .i64 a4 l4 z4) := ⟨r0, r1, r2, r3, r4⟩
  have HZ : Hid (∀ k, -2147483648 ≤ z1 k ∧ z1 k ≤ 2147483647) := hz
  have B0 := bytes_any a0 a1 a2 a3 a4 l0 c0 l1 c1 l2 c2 l3 c3 l4 c4 w m0 m1 m2 m3 m4
  have HB0 : Hid (Calls Try.prog 28 #[.slice a0 l0 c0, .slice a1 l1 c1, .slice a2 l2 c2, .slice a3 l3 c3, .slice a4 l4 c4] w fun e w' => IsBool e ∧ w' = w) := B0
  clear e0 e1 e2 e3 e4 r0 r1 r2 r3 r4 hz B0
  unfold maxLen at m0 m1 m2 m3 m4
  by_cases hbig : l0 ≤ 4096 ∧ l1 ≤ 65536 ∧ l2 ≤ 65536 ∧ l3 ≤ 8192 ∧ l4 ≤ 8192
  · obtain ⟨b0, b1, b2, b3, b4⟩ := hbig
    go_enter Try.func7, Try.ntmps7
    go_wp2_with fail
    refine HB0.out.mono ?_
    rintro e w1 ⟨⟨b, rfl⟩, rfl⟩
    cases b with
    | false =>
      go_wp2_with fail
      go_ret
      exact ⟨rfl, Below.refl _ _⟩
    | true =>
      go_wp2_with fail
      refine (loose_any l0 a1 l1 c1 a3 l3 c3 z1 z3 _ R.out.2.1 R.out.2.2.2.1 b0 b1 b3 HZ.out).mono ?_
      rintro e w1 ⟨⟨b, rfl, hL⟩, hb1⟩
      cases b with
      | false =>
        clear hL
        go_wp2_with fail
        go_ret
        exact ⟨rfl, hb1⟩
      | true =>
        have HL : Hid (0 < l0 → Loose l0 l1 l3 z1 z3) := hL rfl
        clear hL
        go_wp2_with fail
        refine (ints_any a0 l0 c0 z0 _ E.out.1 (R.out.1.below hb1) (by omega)).mono ?_
        rintro e w2 ⟨p0, q0, rfl, f0, s0, hb2⟩
        have k2 := below_step hb1 hb2
        clear hb1 hb2 f0 s0
        go_wp2_with fail
        refine (ints32_any a1 l1 c1 z1 _ E.out.2.1 (R.out.2.1.below k2) (by omega)).mono ?_
        rintro e w3 ⟨p1, q1, rfl, f1, s1, hb3⟩
        have k3 := below_step k2 hb3
        clear k2 hb3
        go_wp2_with fail
        refine (ints32_any a2 l2 c2 z2 _ E.out.2.2.1 (R.out.2.2.1.below k3) (by omega)).mono ?_
        rintro e w4 ⟨p2, q2, rfl, f2, s2, hb4⟩
        have k4 := below_step k3 hb4
        have s1' := s1.below hb4
        clear k3 hb4 f2 s2 s1
        go_wp2_with fail
        refine (ints_any a3 l3 c3 z3 _ E.out.2.2.2.1 (R.out.2.2.2.1.below k4) (by omega)).mono ?_
        rintro e w5 ⟨p3, q3, rfl, f3, s3, hb5⟩
        have k5 := below_step k4 hb5
        have s1'' := s1'.below hb5
        clear k4 hb5 f3 s1'
        go_wp2_with fail
        refine (ints_any a4 l4 c4 z4 _ E.out.2.2.2.2 (R.out.2.2.2.2.below k5) (by omega)).mono ?_
        rintro e w6 ⟨p4, q4, rfl, f4, s4, hb6⟩
        have k6 := below_step k5 hb6
        have G := gm_of HL.out (s1''.below hb6) (s3.below hb6) b0 b1 b3
        have HG : Hid (GM w6 w6.heap.size p1 l1 p3 l3 l0 (fun e => (z1 e).toNat) (fun v => (z3 v).toNat)) := G
        have HF : Hid (Fresh p1 l1 q1) := f1
        have HK : Hid (Below _ _ w6) := k6
        clear k5 hb6 f4 s4 s1'' s3 G f1 k6
        go_wp2_with fail
        refine (zz_any l0 p0 q0 p1 l1 q1 p2 l2 q2 p3 l3 q3 p4 l4 q4 _ _ _ HG.out HF.out).mono ?_
        rintro e w7 ⟨⟨r, rfl, hr⟩, hb7⟩
        have HR : Hid (Low (EC l0 (fun e => (z1 e).toNat) (fun v => (z3 v).toNat)) (fun x => x < l0) r) := hr
        have HG2 : Hid (GM w7 w7.heap.size p1 l1 p3 l3 l0 (fun e => (z1 e).toNat) (fun v => (z3 v).toNat)) := HG.out.below hb7
        have HK2 : Hid (Below _ _ w7) := below_step HK.out hb7
        clear hr hb7
        go_wp2_with fail
        refine (kosa_any l0 p1 l1 q1 p3 l3 q3 _ _ _ HG2.out).mono ?_
        rintro e w8 ⟨⟨r', rfl, hr'⟩, hb8⟩
        obtain rfl : r = r' := HR.out.unique hr'
        have HK3 : Hid (Below _ _ w8) := below_step HK2.out hb8
        clear hr' hb8
        go_wp2_with fail
        go_ret
        exact ⟨by simp, HK3.out⟩
  · have hcase : 4096 < l0 ∨ (l0 ≤ 4096 ∧ 65536 < l1) ∨ (l0 ≤ 4096 ∧ l1 ≤ 65536 ∧ 65536 < l2) ∨ (l0 ≤ 4096 ∧ l1 ≤ 65536 ∧ l2 ≤ 65536 ∧ 8192 < l3) ∨ (l0 ≤ 4096 ∧ l1 ≤ 65536 ∧ l2 ≤ 65536 ∧ l3 ≤ 8192 ∧ 8192 < l4) := by omega
    clear hbig
    rcases hcase with h0 | ⟨h0, h1⟩ | ⟨h0, h1, h2⟩ | ⟨h0, h1, h2, h3⟩ | ⟨h0, h1, h2, h3, h4⟩
    all_goals
      go_enter Try.func7, Try.ntmps7
      go_wp2_with fail
      refine HB0.out.mono ?_
      rintro e w1 ⟨⟨b, rfl⟩, rfl⟩
      cases b
      all_goals
        go_wp2_with fail
        go_ret
        exact ⟨rfl, Below.refl _ _⟩
end Go.Proofs.Qxb6603020a
