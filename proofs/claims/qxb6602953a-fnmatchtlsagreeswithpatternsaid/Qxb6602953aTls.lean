/-
  matchTLS (30), ZZMatchTLS (13), tlsPatternVerdict (14), and the law 'FnMatchTLSAgreesWithPattern' (3).
-/
import Derived.Test.Qxb6602953aCopy
namespace Go.Proofs.Qxb6602953a
open Go.ChangeShapes Go.WideShapes Go.ChangeAt Go.RowKit
set_option linter.unusedVariables false

/-- The verdict: 2 no match, 1 match, 0 more is needed. -/
def V (len : Nat) (z : Nat → Int) : Int :=
  if 0 < len ∧ z 0 ≠ 22 then 2 else if 1 < len ∧ z 1 ≠ 3 then 2 else if len < 6 then 0 else if z 5 ≠ 1 then 2 else 1

theorem bne_of {a b : Int} (h : a ≠ b) : (a != b) = true := by simpa using h
theorem bne_of_eq {a b : Int} (h : a = b) : (a != b) = false := by simpa using h

theorem V_a {len : Nat} {z : Nat → Int} (h : 0 < len) (h0 : z 0 ≠ 22) : V len z = 2 := by unfold V; rw [if_pos ⟨h, h0⟩]
theorem V_b {len : Nat} {z : Nat → Int} (h0 : z 0 = 22) (h : 1 < len) (h1 : z 1 ≠ 3) : V len z = 2 := by unfold V; rw [if_neg (fun q => q.2 h0), if_pos ⟨h, h1⟩]
theorem V_c {len : Nat} {z : Nat → Int} (h0 : 0 < len → z 0 = 22) (h1 : 1 < len → z 1 = 3) (h : len < 6) : V len z = 0 := by
  unfold V; rw [if_neg (fun q => q.2 (h0 q.1)), if_neg (fun q => q.2 (h1 q.1)), if_pos h]
theorem V_d {len : Nat} {z : Nat → Int} (h0 : z 0 = 22) (h1 : z 1 = 3) (h : 6 ≤ len) (h5 : z 5 ≠ 1) : V len z = 2 := by
  unfold V; rw [if_neg (fun q => q.2 h0), if_neg (fun q => q.2 h1), if_neg (by omega), if_pos h5]
theorem V_e {len : Nat} {z : Nat → Int} (h0 : z 0 = 22) (h1 : z 1 = 3) (h : 6 ≤ len) (h5 : z 5 = 1) : V len z = 1 := by
  unfold V; rw [if_neg (fun q => q.2 h0), if_neg (fun q => q.2 h1), if_neg (by omega), if_neg (fun q => q h5)]

set_option maxHeartbeats 800000 in
theorem tls_any (a : Option Addr) (len cap : Nat) (z : Nat → Int) (w : World) (hr : ByteRow w a len z) :
    Calls Try.prog 30 #[.slice a len cap] w fun e w' => e = .returned (.int .i64 (V len z)) ∧ w' = w := by
  by_cases hl : len = 0
  · subst hl
    go_enter Try.func30, Try.ntmps30
    go_wp2
    go_ret
    exact ⟨ret_int (V_c (fun h => by omega) (fun h => by omega) (by omega)).symm, rfl⟩
  · rcases hr with h | ⟨b, off, rfl, hc⟩
    · omega
    have c0 := hc 0 (by omega)
    rw [Nat.add_zero] at c0
    by_cases h0 : z 0 = 22
    · have b0 := bne_of_eq h0
      have H0 : Hid (z 0 = 22) := h0
      clear h0
      by_cases hl1 : 1 < len
      · have c1 := hc 1 hl1
        by_cases h1 : z 1 = 3
        · have b1 := bne_of_eq h1
          have H1 : Hid (z 1 = 3) := h1
          clear h1
          by_cases hl6 : len < 6
          · clear hc
            go_enter Try.func30, Try.ntmps30
            go_wp2
            go_ret
            exact ⟨ret_int (V_c (fun _ => H0.out) (fun _ => H1.out) hl6).symm, rfl⟩
          · have c5 := hc 5 (by omega)
            by_cases h5 : z 5 = 1
            · have b5 := bne_of_eq h5
              have H5 : Hid (z 5 = 1) := h5
              clear h5 hc
              go_enter Try.func30, Try.ntmps30
              go_wp2
              go_ret
              exact ⟨ret_int (V_e H0.out H1.out (by omega) H5.out).symm, rfl⟩
            · have b5 := bne_of h5
              clear hc
              go_enter Try.func30, Try.ntmps30
              go_wp2
              go_ret
              exact ⟨ret_int (V_d H0.out H1.out (by omega) h5).symm, rfl⟩
        · have b1 := bne_of h1
          clear hc
          go_enter Try.func30, Try.ntmps30
          go_wp2
          go_ret
          exact ⟨ret_int (V_b H0.out hl1 h1).symm, rfl⟩
      · clear hc
        go_enter Try.func30, Try.ntmps30
        go_wp2
        go_ret
        exact ⟨ret_int (V_c (fun _ => H0.out) (fun h => by omega) (by omega)).symm, rfl⟩
    · have b0 := bne_of h0
      clear hc
      go_enter Try.func30, Try.ntmps30
      go_wp2
      go_ret
      exact ⟨ret_int (V_a (by omega) h0).symm, rfl⟩

theorem zztls_any (a : Option Addr) (len cap : Nat) (z : Nat → Int) (w : World) (hr : ByteRow w a len z) :
    Calls Try.prog 13 #[.slice a len cap] w fun e w' => e = .returned (.int .i64 (V len z)) ∧ w' = w := by
  go_enter Try.func13, Try.ntmps13
  go_wp2_with (go_at_call 30; refine (tls_any _ _ _ z _ hr).mono ?_; rintro e w' ⟨rfl, rfl⟩)
  go_ret
  exact ⟨rfl, rfl⟩

/-- What the pattern's loop has seen so far. -/
def Seen (z : Nat → Int) (k : Nat) : Prop := (0 < k → z 0 = 22) ∧ (1 < k → z 1 = 3) ∧ (5 < k → z 5 = 1)
theorem Seen.next {z : Nat → Int} {k : Nat} (h : Seen z k) (h0 : k = 0 → z 0 = 22) (h1 : k = 1 → z 1 = 3) (h5 : k = 5 → z 5 = 1) : Seen z (k + 1) := by
  obtain ⟨a, b, c⟩ := h
  refine ⟨fun _ => ?_, fun _ => ?_, fun _ => ?_⟩
  · by_cases e : k = 0
    · exact h0 e
    · exact a (by omega)
  · by_cases e : k = 1
    · exact h1 e
    · exact b (by omega)
  · by_cases e : k = 5
    · exact h5 e
    · exact c (by omega)

set_option maxHeartbeats 1600000 in
theorem pat_any (a : Option Addr) (len cap : Nat) (z : Nat → Int) (w : World) (hr : ByteRow w a len z) (hlen : len ≤ 1048576) (N : Nat) (hN : (6 < len ∧ N = 6) ∨ (len ≤ 6 ∧ N = len)) :
    Calls Try.prog 14 #[.slice a len cap] w fun e w' => e = .returned (.int .i64 (V len z)) ∧ w' = w := by
  have HN : N ≤ 6 ∧ N ≤ len := by omega
  have HR : Hid (ByteRow w a len z) := hr
  clear hr
  rcases hN with ⟨hl, rfl⟩ | ⟨hl, rfl⟩
  all_goals
    obtain ⟨HN1, HN2⟩ := HN
    go_enter Try.func14, Try.ntmps14
    go_wp2
  · go_loop [4] (fun i => ∃ k : Nat, k ≤ 6 ∧ i = .int .i64 k ∧ Hid (Seen z k)) (fun i => 6 - (intOf i).toNat)
    case atStart => exact ⟨0, by omega, rfl, by unfold Hid Seen; omega⟩
    case round =>
      obtain ⟨k, hk, rfl, HS⟩ := hrel
      by_cases hkn : k < 6
      · rcases HR.out with h | ⟨b, off, rfl, hc⟩
        · omega
        by_cases e0 : k = 0
        · subst e0
          have ck := hc 0 (by omega)
          rw [Nat.add_zero] at ck
          by_cases hz : z 0 = 22
          · have bz := bne_of_eq hz
            have HZ : Hid (z 0 = 22) := hz
            clear hz hc
            go_wp2
            go_round
            case rel => exact ⟨1, by omega, rfl, HS.out.next (fun _ => HZ.out) (fun _ => by omega) (fun _ => by omega)⟩
            case measure => simp [intOf]; try omega
          · have bz := bne_of hz
            have HZ : Hid (z 0 ≠ 22) := hz
            clear hz hc
            go_wp2
            go_ret
            exact ⟨ret_int (V_a (by omega) HZ.out).symm, rfl⟩
        by_cases e1 : k = 1
        · subst e1
          have ck := hc 1 (by omega)
          skip
          by_cases hz : z 1 = 3
          · have bz := bne_of_eq hz
            have HZ : Hid (z 1 = 3) := hz
            clear hz hc
            go_wp2
            go_round
            case rel => exact ⟨2, by omega, rfl, HS.out.next (fun _ => by omega) (fun _ => HZ.out) (fun _ => by omega)⟩
            case measure => simp [intOf]; try omega
          · have bz := bne_of hz
            have HZ : Hid (z 1 ≠ 3) := hz
            clear hz hc
            go_wp2
            go_ret
            exact ⟨ret_int (V_b (HS.out.1 (by omega)) (by omega) HZ.out).symm, rfl⟩
        by_cases e5 : k = 5
        · subst e5
          have ck := hc 5 (by omega)
          skip
          by_cases hz : z 5 = 1
          · have bz := bne_of_eq hz
            have HZ : Hid (z 5 = 1) := hz
            clear hz hc
            go_wp2
            go_round
            case rel => exact ⟨6, by omega, rfl, HS.out.next (fun _ => by omega) (fun _ => by omega) (fun _ => HZ.out)⟩
            case measure => simp [intOf]; try omega
          · have bz := bne_of hz
            have HZ : Hid (z 5 ≠ 1) := hz
            clear hz hc
            go_wp2
            go_ret
            exact ⟨ret_int (V_d (HS.out.1 (by omega)) (HS.out.2.1 (by omega)) (by omega) HZ.out).symm, rfl⟩
        clear hc
        have f0 : ((k : Int) == 0) = false := by simp; omega
        have f1 : ((k : Int) == 1) = false := by simp; omega
        have f5 : ((k : Int) == 5) = false := by simp; omega
        have HNX : Hid (Seen z (k + 1)) := HS.out.next (fun h => absurd h e0) (fun h => absurd h e1) (fun h => absurd h e5)
        clear e0 e1 e5
        go_wp2
        go_round
        case rel => exact ⟨k + 1, by omega, by go_num, HNX⟩
        case measure => simp [intOf]; omega
      · obtain rfl : k = 6 := by omega
        go_wp2
        all_goals go_ret
        all_goals exact ⟨ret_int (by first | exact (V_e (HS.out.1 (by omega)) (HS.out.2.1 (by omega)) (by omega) (HS.out.2.2 (by omega))).symm | exact (V_c (fun h => HS.out.1 (by omega)) (fun h => HS.out.2.1 (by omega)) (by omega)).symm), rfl⟩
  · go_loop [4] (fun i => ∃ k : Nat, k ≤ N ∧ i = .int .i64 k ∧ Hid (Seen z k)) (fun i => N - (intOf i).toNat)
    case atStart => exact ⟨0, by omega, rfl, by unfold Hid Seen; omega⟩
    case round =>
      obtain ⟨k, hk, rfl, HS⟩ := hrel
      by_cases hkn : k < N
      · rcases HR.out with h | ⟨b, off, rfl, hc⟩
        · omega
        by_cases e0 : k = 0
        · subst e0
          have ck := hc 0 (by omega)
          rw [Nat.add_zero] at ck
          by_cases hz : z 0 = 22
          · have bz := bne_of_eq hz
            have HZ : Hid (z 0 = 22) := hz
            clear hz hc
            go_wp2
            go_round
            case rel => exact ⟨1, by omega, rfl, HS.out.next (fun _ => HZ.out) (fun _ => by omega) (fun _ => by omega)⟩
            case measure => simp [intOf]; try omega
          · have bz := bne_of hz
            have HZ : Hid (z 0 ≠ 22) := hz
            clear hz hc
            go_wp2
            go_ret
            exact ⟨ret_int (V_a (by omega) HZ.out).symm, rfl⟩
        by_cases e1 : k = 1
        · subst e1
          have ck := hc 1 (by omega)
          skip
          by_cases hz : z 1 = 3
          · have bz := bne_of_eq hz
            have HZ : Hid (z 1 = 3) := hz
            clear hz hc
            go_wp2
            go_round
            case rel => exact ⟨2, by omega, rfl, HS.out.next (fun _ => by omega) (fun _ => HZ.out) (fun _ => by omega)⟩
            case measure => simp [intOf]; try omega
          · have bz := bne_of hz
            have HZ : Hid (z 1 ≠ 3) := hz
            clear hz hc
            go_wp2
            go_ret
            exact ⟨ret_int (V_b (HS.out.1 (by omega)) (by omega) HZ.out).symm, rfl⟩
        by_cases e5 : k = 5
        · subst e5
          have ck := hc 5 (by omega)
          skip
          by_cases hz : z 5 = 1
          · have bz := bne_of_eq hz
            have HZ : Hid (z 5 = 1) := hz
            clear hz hc
            go_wp2
            go_round
            case rel => exact ⟨6, by omega, rfl, HS.out.next (fun _ => by omega) (fun _ => by omega) (fun _ => HZ.out)⟩
            case measure => simp [intOf]; try omega
          · have bz := bne_of hz
            have HZ : Hid (z 5 ≠ 1) := hz
            clear hz hc
            go_wp2
            go_ret
            exact ⟨ret_int (V_d (HS.out.1 (by omega)) (HS.out.2.1 (by omega)) (by omega) HZ.out).symm, rfl⟩
        clear hc
        have f0 : ((k : Int) == 0) = false := by simp; omega
        have f1 : ((k : Int) == 1) = false := by simp; omega
        have f5 : ((k : Int) == 5) = false := by simp; omega
        have HNX : Hid (Seen z (k + 1)) := HS.out.next (fun h => absurd h e0) (fun h => absurd h e1) (fun h => absurd h e5)
        clear e0 e1 e5
        go_wp2
        go_round
        case rel => exact ⟨k + 1, by omega, by go_num, HNX⟩
        case measure => simp [intOf]; omega
      · obtain rfl : k = N := by omega
        go_wp2
        all_goals go_ret
        all_goals exact ⟨ret_int (by first | exact (V_e (HS.out.1 (by omega)) (HS.out.2.1 (by omega)) (by omega) (HS.out.2.2 (by omega))).symm | exact (V_c (fun h => HS.out.1 (by omega)) (fun h => HS.out.2.1 (by omega)) (by omega)).symm), rfl⟩

/-- The verdict off the pattern, at every length. -/
theorem patt_any (a : Option Addr) (len cap : Nat) (z : Nat → Int) (w : World) (hr : ByteRow w a len z) (hlen : len ≤ 1048576) :
    Calls Try.prog 14 #[.slice a len cap] w fun e w' => e = .returned (.int .i64 (V len z)) ∧ w' = w := by
  by_cases h : 6 < len
  · exact pat_any a len cap z w hr hlen 6 (.inl ⟨h, rfl⟩)
  · exact pat_any a len cap z w hr hlen len (.inr ⟨by omega, rfl⟩)

theorem tbytes_yes (a : Option Addr) (len cap : Nat) (w : World) (hl : len ≤ 1048576) :
    Calls Try.prog 11 #[.slice a len cap] w fun e w' => e = .returned (.bool true) ∧ w' = w := by
  go_enter Try.func11, Try.ntmps11
  go_wp2
  go_ret
  exact ⟨rfl, rfl⟩
theorem tbytes_no (a : Option Addr) (len cap : Nat) (w : World) (hl : 1048576 < len) :
    Calls Try.prog 11 #[.slice a len cap] w fun e w' => e = .returned (.bool false) ∧ w' = w := by
  go_enter Try.func11, Try.ntmps11
  go_wp2
  go_ret
  exact ⟨rfl, rfl⟩

set_option maxHeartbeats 400000 in
/-- THE LAW's WALK. -/
theorem tlsLaw (a : Option Addr) (len cap : Nat) (z : Nat → Int) (w : World) (hn : a = none → len = 0 ∧ cap = 0) (hr : ByteRow w a len z) :
    Calls Try.prog 3 #[.slice a len cap] w fun e w' => e = .returned (.bool true) ∧ Below w.heap.size w w' := by
  have HN : Hid (a = none → len = 0 ∧ cap = 0) := hn
  have HR : Hid (ByteRow w a len z) := hr
  clear hn hr
  by_cases hl : len ≤ 1048576
  · go_enter Try.func3, Try.ntmps3
    go_wp2_with (first | (go_at_call 11; refine (tbytes_yes _ _ _ _ hl).mono ?_; rintro e w' ⟨rfl, rfl⟩))
    refine (copy_any a len cap z _ HN.out HR.out hl).mono ?_
    rintro e w1 ⟨a1, c1, rfl, r1, hb⟩
    go_wp2_with (first | (go_at_call 13; refine (zztls_any _ _ _ z _ r1).mono ?_; rintro e w' ⟨rfl, rfl⟩) | (go_at_call 14; refine (patt_any _ _ _ z _ r1 hl).mono ?_; rintro e w' ⟨rfl, rfl⟩))
    go_ret
    exact ⟨ret_bool (by simp), hb⟩
  · go_enter Try.func3, Try.ntmps3
    go_wp2_with (first | (go_at_call 11; refine (tbytes_no _ _ _ _ (by omega)).mono ?_; rintro e w' ⟨rfl, rfl⟩))
    go_ret
    exact ⟨rfl, Below.refl _ _⟩
end Go.Proofs.Qxb6602953a
