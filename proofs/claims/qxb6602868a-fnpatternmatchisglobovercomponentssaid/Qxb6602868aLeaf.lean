/-
  CONTRACTS OF THE SMALL FUNCTIONS: zzAdd (7), zzStringsBytes (6), zzBytes (5).
-/
import Derived.Test.Qxb6602868aRows
import Derived.Test.Qxb6602868aPlain
import Derived.WalkKit
import Derived.WalkSpells
import Derived.WalkLawsBesides
import Derived.ProofKit
namespace Go.Proofs.Qxb6602868a
open Go.ChangeShapes Go.WideShapes Go.ChangeAt Go.RowKit

/-- A row of strings, as a slice of 'len' elements sees it. -/
def StrRow (w : World) (a : Option Addr) (len : Nat) (sf : Nat → ByteArray) : Prop :=
  len = 0 ∨ ∃ b off, a = some ⟨b, off, none⟩ ∧ ∀ k, k < len → w.cell? ⟨b, off + k, none⟩ = some (.string (sf k))

theorem ret_int {k : IntKind} {a b : Int} (h : a = b) : Ending.returned (.int k a) = .returned (.int k b) := by rw [h]
theorem ret_bool {a b : Bool} (h : a = b) : Ending.returned (.bool a) = .returned (.bool b) := by rw [h]

theorem add_any (t n : Int) (w : World) (h1 : 0 ≤ t) (h2 : 0 ≤ n) (h3 : t ≤ 9223372036854775807) (h4 : n ≤ 9223372036854775807) :
    Calls Try.prog 7 #[.int .i64 t, .int .i64 n] w fun e w' => (∃ r : Int, 0 ≤ r ∧ r ≤ 4097 ∧ (r ≤ 4096 → r = t + n) ∧ e = .returned (.int .i64 r)) ∧ w' = w := by
  by_cases a : t ≤ 4096
  · by_cases b : n ≤ 4096
    · by_cases c : t + n ≤ 4096
      · go_enter Try.func7, Try.ntmps7
        go_wp2
        go_ret
        exact ⟨⟨_, by omega, by omega, fun _ => rfl, rfl⟩, rfl⟩
      · go_enter Try.func7, Try.ntmps7
        go_wp2
        go_ret
        exact ⟨⟨_, by omega, by omega, fun h => by omega, rfl⟩, rfl⟩
    · go_enter Try.func7, Try.ntmps7
      go_wp2
      go_ret
      exact ⟨⟨_, by omega, by omega, fun h => by omega, rfl⟩, rfl⟩
  · go_enter Try.func7, Try.ntmps7
    go_wp2
    go_ret
    exact ⟨⟨_, by omega, by omega, fun h => by omega, rfl⟩, rfl⟩

set_option maxHeartbeats 400000 in
theorem strs_any (t : Int) (a : Option Addr) (len cap : Nat) (sf : Nat → ByteArray) (w : World) (h1 : 0 ≤ t) (h2 : t ≤ 4097) (hr : StrRow w a len sf) (hs : ∀ k, (sf k).size ≤ maxLen) (hlen : len ≤ maxLen) :
    Calls Try.prog 6 #[.int .i64 t, .slice a len cap] w fun e w' => (∃ r : Int, 0 ≤ r ∧ r ≤ 4097 ∧ (r ≤ 4096 → t ≤ 4096 ∧ 8 * len ≤ 4096 ∧ ∀ k, k < len → (sf k).size ≤ 4096) ∧ e = .returned (.int .i64 r)) ∧ w' = w := by
  unfold maxLen at hs hlen
  by_cases hl : len ≤ 4096
  · go_enter Try.func6, Try.ntmps6
    go_wp2_with (go_at_call 7; refine (add_any _ _ _ (by omega) (by omega) (by omega) (by omega)).mono ?_; rintro e w' ⟨⟨r, hr1, hr2, hr3, rfl⟩, rfl⟩)
    have HR : Hid (r ≤ 4096 → r = t + 8 * ↑len) := hr3
    clear hr3
    go_loop [0, 5] (fun n i => ∃ (k : Nat) (T : Int), k ≤ len ∧ i = .int .i64 k ∧ n = .int .i64 T ∧ 0 ≤ T ∧ T ≤ 4097 ∧ (T ≤ 4096 → t ≤ 4096 ∧ 8 * len ≤ 4096 ∧ ∀ k', k' < k → (sf k').size ≤ 4096)) (fun _ i => len - (intOf i).toNat)
    case atStart => exact ⟨0, r, Nat.zero_le _, rfl, rfl, hr1, hr2, fun h => ⟨by have := HR.out h; omega, by have := HR.out h; omega, fun k' h => absurd h (by omega)⟩⟩
    case round =>
      obtain ⟨k, T, hk, rfl, rfl, hT1, hT2, hT3⟩ := hrel
      have HT : Hid (T ≤ 4096 → t ≤ 4096 ∧ 8 * len ≤ 4096 ∧ ∀ k', k' < k → (sf k').size ≤ 4096) := hT3
      clear hT3
      by_cases hlt : k < len
      · rcases hr with h0 | ⟨b, off, rfl, hc⟩
        · omega
        have hck := hc k hlt
        have hsk := hs k
        clear hc
        go_wp2_with (go_at_call 7; refine (add_any _ _ _ (by omega) (by omega) (by omega) (by omega)).mono ?_; rintro e w' ⟨⟨r2, hq1, hq2, hq3, rfl⟩, rfl⟩)
        go_round
        case rel =>
          refine ⟨k + 1, _, by omega, by go_num, rfl, by assumption, by assumption, fun h => ?_⟩
          have e := hq3 h
          have g := HT.out (by omega)
          refine ⟨g.1, g.2.1, fun k' hk' => ?_⟩
          by_cases ek : k' = k
          · subst ek; omega
          · exact g.2.2 k' (by omega)
        case measure => simp [intOf]; omega
      · obtain rfl : k = len := by omega
        go_wp2
        go_ret
        exact ⟨⟨_, hT1, hT2, HT.out, rfl⟩, rfl⟩
  · go_enter Try.func6, Try.ntmps6
    go_wp2
    go_ret
    exact ⟨⟨_, by omega, by omega, fun h => by omega, rfl⟩, rfl⟩

/-- It returns a bool. -/
def IsBool (e : Ending) : Prop := ∃ b : Bool, e = .returned (.bool b)

set_option maxHeartbeats 1000000 in
theorem bytes_any (x y : ByteArray) (a1 : Option Addr) (l1 c1 : Nat) (f1 : Nat → ByteArray) (a2 : Option Addr) (l2 c2 : Nat) (f2 : Nat → ByteArray) (w : World)
    (hx : x.size ≤ maxLen) (hy : y.size ≤ maxLen) (r1 : StrRow w a1 l1 f1) (s1 : ∀ k, (f1 k).size ≤ maxLen) (n1 : l1 ≤ maxLen) (r2 : StrRow w a2 l2 f2) (s2 : ∀ k, (f2 k).size ≤ maxLen) (n2 : l2 ≤ maxLen) :
    Calls Try.prog 5 #[.string x, .string y, .slice a1 l1 c1, .slice a2 l2 c2] w fun e w' => IsBool e ∧ w' = w := by
  unfold maxLen at *
  go_enter Try.func5, Try.ntmps5
  go_wp2
  all_goals first | (go_ret; exact ⟨⟨_, rfl⟩, rfl⟩) | skip
  go_loop [9, 10] (fun n i => ∃ (k : Nat) (T : Int), k ≤ l1 ∧ i = .int .i64 k ∧ n = .int .i64 T ∧ 0 ≤ T ∧ T ≤ 1048576) (fun _ i => l1 - (intOf i).toNat)
  case atStart => exact ⟨0, _, Nat.zero_le _, rfl, rfl, by omega, by omega⟩
  case round =>
    obtain ⟨k, T, hk, rfl, rfl, hT1, hT2⟩ := hrel
    by_cases hlt : k < l1
    · rcases r1 with h0 | ⟨b, off, rfl, hc⟩
      · omega
      have hck := hc k hlt
      have hsk := s1 k
      clear hc
      go_wp2
      all_goals first | (go_ret; exact ⟨⟨_, rfl⟩, rfl⟩) | skip
      go_round
      case rel => exact ⟨k + 1, _, by omega, by go_num, rfl, by omega, by omega⟩
      case measure => simp [intOf]; omega
    · go_wp2
      all_goals first | (go_ret; exact ⟨⟨_, rfl⟩, rfl⟩) | skip
      go_loop [9, 11] (fun n i => ∃ (k : Nat) (T : Int), k ≤ l2 ∧ i = .int .i64 k ∧ n = .int .i64 T ∧ 0 ≤ T ∧ T ≤ 1048576) (fun _ i => l2 - (intOf i).toNat)
      case atStart => exact ⟨0, _, Nat.zero_le _, rfl, rfl, by omega, by omega⟩
      case round =>
        obtain ⟨q, U, hq, rfl, rfl, hU1, hU2⟩ := hrel
        by_cases hlt2 : q < l2
        · rcases r2 with h0 | ⟨b, off, rfl, hc⟩
          · omega
          have hck := hc q hlt2
          have hsk := s2 q
          clear hc
          go_wp2
          all_goals first | (go_ret; exact ⟨⟨_, rfl⟩, rfl⟩) | skip
          go_round
          case rel => exact ⟨q + 1, _, by omega, by go_num, rfl, by omega, by omega⟩
          case measure => simp [intOf]; omega
        · go_wp2
          go_ret
          exact ⟨⟨_, rfl⟩, rfl⟩
end Go.Proofs.Qxb6602868a
