/-
  'wildcard' (15) AT THE BYTES OF A COMPONENT (the closures 19, 20), and 'matchComponent' (18).
-/
import Derived.Test.Qxb6602868aClone
import Derived.Deep.QuietTactic
import Derived.BigQuiet
namespace Go.Proofs.Qxb6602868a
open Go.ChangeShapes Go.WideShapes Go.ChangeAt Go.RowKit Pl

set_option linter.unusedVariables false
/-- Byte k of a string. -/
def bAt (s : ByteArray) (k : Nat) : Int := if h : k < s.size then (s[k].toNat : Int) else 0
def starB (s : ByteArray) (k : Nat) : Bool := bAt s k == 42
def sameB (p s : ByteArray) (i j : Nat) : Bool := bAt p i == bAt s j
/-- Does the component's pattern match the component? -/
def compM (p s : ByteArray) : Bool := M (starB p) (sameB p s) p.size s.size 0 0

theorem bAt_eq (s : ByteArray) (k : Nat) (h : k < s.size) : bAt s k = (s[k].toNat : Int) := by unfold bAt; rw [dif_pos h]

theorem c19 (s : ByteArray) (k b : Nat) (w : World) (hk : k < s.size) (hs : s.size ≤ 4096) (hc : w.cell? ⟨b, 0, none⟩ = some (.string s)) :
    Calls Try.prog 19 #[.int .i64 k, .pointer (some ⟨b, 0, none⟩)] w fun e w' => e = .returned (.bool (starB s k)) ∧ w' = w := by
  go_enter Try.func19, Try.ntmps19
  go_wp2
  go_ret
  exact ⟨ret_bool (by unfold starB; rw [bAt_eq s k hk]), rfl⟩

theorem c20 (p s : ByteArray) (i j b c : Nat) (w : World) (hi : i < p.size) (hj : j < s.size) (hp : p.size ≤ 4096) (hs : s.size ≤ 4096) (hc : w.cell? ⟨b, 0, none⟩ = some (.string p)) (hd : w.cell? ⟨c, 0, none⟩ = some (.string s)) :
    Calls Try.prog 20 #[.int .i64 i, .int .i64 j, .pointer (some ⟨b, 0, none⟩), .pointer (some ⟨c, 0, none⟩)] w fun e w' => e = .returned (.bool (sameB p s i j)) ∧ ∃ q, w' = w.drewN q := by
  have hi' : (i : Int) < (p.size : Int) := by omega
  have hj' : (j : Int) < (s.size : Int) := by omega
  go_enter Try.func20, Try.ntmps20
  go_wp2
  go_quiet (fail)
  go_wp2
  go_ret
  exact ⟨ret_bool (by unfold sameB; rw [bAt_eq p i hi, bAt_eq s j hj]), _, rfl⟩

set_option maxHeartbeats 1600000 in
theorem wildC (n m : Nat) (b c : Nat) (star : Nat → Bool) (same : Nat → Nat → Bool) (I : World → Prop) (w : World) (hn : n ≤ 4096) (hm : m ≤ 4096) (hI : I w)
    (HS : Hid (∀ k wx, k < n → I wx → Calls Try.prog 19 #[.int .i64 (k : Nat), .pointer (some ⟨b, 0, none⟩)] wx fun e w' => e = .returned (.bool (star k)) ∧ I w'))
    (HM : Hid (∀ i j wx, i < n → j < m → I wx → Calls Try.prog 20 #[.int .i64 (i : Nat), .int .i64 (j : Nat), .pointer (some ⟨b, 0, none⟩), .pointer (some ⟨c, 0, none⟩)] wx fun e w' => e = .returned (.bool (same i j)) ∧ I w')) :
    Calls Try.prog 15 #[.int .i64 n, .int .i64 m, .func (.func 19) #[] #[.pointer (some ⟨b, 0, none⟩)], .func (.func 20) #[] #[.pointer (some ⟨b, 0, none⟩), .pointer (some ⟨c, 0, none⟩)]] w
      fun e w' => e = .returned (.bool (M star same n m 0 0)) ∧ I w' := by
  go_enter Try.func15, Try.ntmps15
  go_wp2_with fail
  go_loopw [9, 10, 11, 12] (fun i j bk bj wr => ∃ i' j' k' q' : Nat, i = .int .i64 i' ∧ j = .int .i64 j' ∧ bk = .int .i64 ((k' : Int) - 1) ∧ bj = .int .i64 q' ∧ Inv star same n m i' j' k' q' ∧ q' ≤ m ∧ I wr)
    (fun i _ bk bj _ => meas n m (intOf i).toNat (intOf bk + 1).toNat (intOf bj).toNat)
  case atStart => exact ⟨0, 0, 0, 0, rfl, rfl, rfl, rfl, Inv.start, Nat.zero_le _, hI⟩
  case round =>
    obtain ⟨i, j, k, q, rfl, rfl, rfl, rfl, hinv, hqm, hI2⟩ := hrel
    have hi := hinv.hi
    have hj := hinv.hj
    have hkb := hinv.hb
    have e1 : ((i : Int) + 1).toNat = i + 1 := by omega
    have e2 : ((k : Int) - 1 + 1).toNat = k := by omega
    have e3 : ((i : Int) + 1).toNat = i + 1 := by omega
    have e4 : ((q : Int) + 1).toNat = q + 1 := by omega
    have E : Hid ((((i : Int) + 1).toNat = i + 1) ∧ (((k : Int) - 1 + 1).toNat = k) ∧ (((q : Int) + 1).toNat = q + 1)) := ⟨e1, e2, e4⟩
    clear e1 e2 e3 e4
    by_cases hjm : j < m
    · by_cases hin : i < n
      · cases hst : star i with
        | true =>
          have HST : Hid (star i = true) := hst
          go_wp2_with (go_at_call 19; refine (HS.out i _ hin (by assumption)).mono ?_; rintro e w' ⟨rfl, hI3⟩)
          go_roundw
          case rel => exact ⟨i + 1, j, i + 1, j, by go_num, rfl, by go_num, rfl, hinv.pass hin hjm HST.out, hj, by assumption⟩
          case measure =>
            have h := meas_star (n := n) (m := m) (bj := q) hin hj hkb
            obtain ⟨e1, e2, e4⟩ := E.out
            simp only [intOf, e1, e2, Int.toNat_natCast]
            exact h
        | false =>
          have HST : Hid (star i = false) := hst
          cases hsm : same i j with
          | true =>
            have HSM : Hid (same i j = true) := hsm
            go_wp2_with (first | (go_at_call 19; refine (HS.out i _ hin (by assumption)).mono ?_; rintro e w' ⟨rfl, hI3⟩) | (go_at_call 20; refine (HM.out i j _ hin hjm (by assumption)).mono ?_; rintro e w' ⟨rfl, hI4⟩))
            go_roundw
            case rel => exact ⟨i + 1, j + 1, k, q, by go_num, by go_num, rfl, rfl, hinv.step hin hjm HST.out HSM.out, hqm, by assumption⟩
            case measure =>
              have h := meas_same (n := n) (m := m) (bk := k) (bj := q) hin
              obtain ⟨e1, e2, e4⟩ := E.out
              simp only [intOf, e1, e2, Int.toNat_natCast]
              exact h
          | false =>
            have HNO : Hid (i < n → star i = false ∧ same i j = false) := fun _ => ⟨hst, hsm⟩
            by_cases hk0 : 0 < k
            · obtain ⟨hq', hinv'⟩ := hinv.back hjm HNO.out hk0
              go_wp2_with (first | (go_at_call 19; refine (HS.out i _ hin (by assumption)).mono ?_; rintro e w' ⟨rfl, hI3⟩) | (go_at_call 20; refine (HM.out i j _ hin hjm (by assumption)).mono ?_; rintro e w' ⟨rfl, hI4⟩))
              go_roundw
              case rel => exact ⟨k, q + 1, k, q + 1, by go_num, by go_num, rfl, by go_num, hinv', by omega, by assumption⟩
              case measure =>
                have h := meas_back (n := n) (m := m) (i := i) (bk := k) hq'
                obtain ⟨e1, e2, e4⟩ := E.out
                simp only [intOf, e2, e4, Int.toNat_natCast]
                exact h
            · obtain rfl : k = 0 := by omega
              have hM := hinv.none hjm HNO.out
              go_wp2_with (first | (go_at_call 19; refine (HS.out i _ hin (by assumption)).mono ?_; rintro e w' ⟨rfl, hI3⟩) | (go_at_call 20; refine (HM.out i j _ hin hjm (by assumption)).mono ?_; rintro e w' ⟨rfl, hI4⟩))
              go_ret
              exact ⟨ret_bool (by first | rfl | exact hM.symm), by assumption⟩
      · have HNO : Hid (i < n → star i = false ∧ same i j = false) := fun h => absurd h hin
        by_cases hk0 : 0 < k
        · obtain ⟨hq', hinv'⟩ := hinv.back hjm HNO.out hk0
          go_wp2_with fail
          go_roundw
          case rel => exact ⟨k, q + 1, k, q + 1, by go_num, by go_num, rfl, by go_num, hinv', by omega, by assumption⟩
          case measure =>
            have h := meas_back (n := n) (m := m) (i := i) (bk := k) hq'
            obtain ⟨e1, e2, e4⟩ := E.out
            simp only [intOf, e2, e4, Int.toNat_natCast]
            exact h
        · obtain rfl : k = 0 := by omega
          have hM := hinv.none hjm HNO.out
          go_wp2_with fail
          go_ret
          exact ⟨ret_bool (by first | rfl | exact hM.symm), by assumption⟩
    · obtain rfl : j = m := by omega
      have HD : Hid (M star same n j 0 0 = M star same n j i j) := hinv.done
      clear hinv E
      go_wp2_with fail
      go_loopw [9] (fun x wr => ∃ i' : Nat, x = .int .i64 i' ∧ i' ≤ n ∧ Hid (M star same n j 0 0 = M star same n j i' j) ∧ I wr) (fun x _ => n - (intOf x).toNat)
      case atStart => exact ⟨i, rfl, hi, HD, hI2⟩
      case round =>
        obtain ⟨r, rfl, hr, HR, hI5⟩ := hrel
        by_cases hrn : r < n
        · cases hst : star r with
          | true =>
            have HST : Hid (star r = true) := hst
            go_wp2_with (go_at_call 19; refine (HS.out r _ hrn (by assumption)).mono ?_; rintro e w' ⟨rfl, hI3⟩)
            go_roundw
            case rel => exact ⟨r + 1, by go_num, by omega, HR.out.trans (M_star_end hrn HST.out), by assumption⟩
            case measure => simp [intOf]; omega
          | false =>
            have HST : Hid (star r = false) := hst
            go_wp2_with (go_at_call 19; refine (HS.out r _ hrn (by assumption)).mono ?_; rintro e w' ⟨rfl, hI3⟩)
            go_ret
            exact ⟨ret_bool (by rw [HR.out, M_same_end hrn HST.out]; simp; omega), by assumption⟩
        · obtain rfl : r = n := by omega
          go_wp2_with fail
          go_ret
          exact ⟨ret_bool (by rw [HR.out, M_end]; simp), by assumption⟩
end Go.Proofs.Qxb6602868a
