/-
  THE CALLEES' CONTRACTS: zzBytes (17), zzOutboxB1Count (9), LastIndexByteString (22), LastIndex (21), Base (20), zzOutboxB1EndsWith (14).
-/
import Derived.Test.Qxb6602844aRows
import Derived.Test.Qxb6602844aPlain
import Derived.WalkKit
import Derived.WalkSpells
import Derived.ProofKit
namespace Go.Proofs.Qxb6602844a
open Go.ChangeShapes Go.WideShapes Go.ChangeAt Go.RowKit

/-- zzBytes: at most 2^20 bytes. -/
theorem bytes_yes (s : ByteArray) (w : World) (hs : s.size ≤ 1048576) :
    Calls Try.prog 17 #[.string s] w fun e w' => e = .returned (.bool true) ∧ w' = w := by
  go_enter Try.func17, Try.ntmps17
  go_wp2
  go_ret
  exact ⟨rfl, rfl⟩
theorem bytes_no (s : ByteArray) (w : World) (hs : 1048576 < s.size) (hm : s.size ≤ maxLen) :
    Calls Try.prog 17 #[.string s] w fun e w' => e = .returned (.bool false) ∧ w' = w := by
  unfold maxLen at hm
  go_enter Try.func17, Try.ntmps17
  go_wp2
  go_ret
  exact ⟨rfl, rfl⟩

set_option maxHeartbeats 400000 in
/-- zzOutboxB1Count at the question mark. -/
theorem count_any (s : ByteArray) (w : World) (hs : s.size ≤ maxLen) :
    Calls Try.prog 9 #[.string s, .int .u8 63] w fun e w' => e = .returned (.int .i64 (cq s)) ∧ w' = w := by
  unfold maxLen at hs
  go_enter Try.func9, Try.ntmps9
  go_wp2
  go_loop [5, 6] (fun n i => ∃ k : Nat, k ≤ s.size ∧ i = .int .i64 k ∧ n = .int .i64 (cqL (s.data.toList.take k))) (fun _ i => s.size - (intOf i).toNat)
  case atStart => exact ⟨0, Nat.zero_le _, rfl, rfl⟩
  case round =>
    obtain ⟨k, hk, rfl, rfl⟩ := hrel
    have hd := cqL_le (s.data.toList.take k)
    have hl : (s.data.toList.take k).length ≤ k := List.length_take_le _ _
    by_cases hlt : k < s.size
    · have HS : Hid ((cqL (s.data.toList.take (k + 1)) : Int) = cqL (s.data.toList.take k) + if ((s[k].toNat : Int) == 63) = true then 1 else 0) := cqL_step s k hlt
      by_cases hq : ((s[k].toNat : Int) == 63) = true
      · have HQ : Hid (((s[k].toNat : Int) == 63) = true) := hq
        go_wp2
        go_round
        case rel => exact ⟨k + 1, by omega, by go_num, by rw [HS.out, if_pos HQ.out]⟩
        case measure => simp [intOf]; omega
      · have hq' : ((s[k].toNat : Int) == 63) = false := by simpa using hq
        have HQ : Hid (¬ ((s[k].toNat : Int) == 63) = true) := hq
        clear hq
        go_wp2
        go_round
        case rel => exact ⟨k + 1, by omega, by go_num, by rw [HS.out, if_neg HQ.out]; go_num⟩
        case measure => simp [intOf]; omega
    · go_wp2
      go_ret
      exact ⟨ret_int (by rw [cqL_all s k (by omega)]), rfl⟩

/-- zzOutboxB1EndsWith. -/
theorem ends_any (s t : ByteArray) (w : World) (hs : s.size ≤ maxLen) (ht : t.size ≤ s.size) :
    Calls Try.prog 14 #[.string s, .string t] w fun e w' => e = .returned (.bool ((s.extract (s.size - t.size) s.size).toList == t.toList)) ∧ w' = w := by
  unfold maxLen at hs
  go_enter Try.func14, Try.ntmps14
  go_wp2
  go_ret
  exact ⟨rfl, rfl⟩

set_option maxHeartbeats 400000 in
/-- internal/bytealg.LastIndexByteString: an index below the length, or -1. -/
theorem libs_any (s : ByteArray) (c : Int) (w : World) (hs : s.size ≤ maxLen) :
    Calls Try.prog 22 #[.string s, .int .u8 c] w fun e w' => (∃ i : Int, -1 ≤ i ∧ i < s.size ∧ e = .returned (.int .i64 i)) ∧ w' = w := by
  unfold maxLen at hs
  go_enter Try.func22, Try.ntmps22
  go_wp2
  go_loop [5] (fun i => ∃ k : Int, -1 ≤ k ∧ k < s.size ∧ i = .int .i64 k) (fun i => (intOf i + 1).toNat)
  case atStart => exact ⟨(s.size : Int) - 1, by omega, by omega, rfl⟩
  case round =>
    obtain ⟨k, hk, hk2, rfl⟩ := hrel
    by_cases hlt : 0 ≤ k
    · obtain ⟨j, rfl⟩ : ∃ j : Nat, k = j := ⟨k.toNat, by omega⟩
      go_wp2
      · go_ret
        exact ⟨⟨_, by omega, by omega, rfl⟩, rfl⟩
      · go_round
        case rel => exact ⟨(j : Int) - 1, by omega, by omega, by go_num⟩
        case measure => simp [intOf]
    · go_wp2
      go_ret
      exact ⟨⟨_, by omega, by omega, rfl⟩, rfl⟩

/-- strings.LastIndex at one byte. -/
theorem last_any (s : ByteArray) (w : World) (hs : s.size ≤ maxLen) :
    Calls Try.prog 21 #[.string s, .string ⟨#[46]⟩] w fun e w' => (∃ i : Int, -1 ≤ i ∧ i < s.size ∧ e = .returned (.int .i64 i)) ∧ w' = w := by
  go_enter Try.func21, Try.ntmps21
  go_wp2_with (go_at_call 22; refine (libs_any _ _ _ hs).mono ?_; rintro e w' ⟨⟨i, h1, h2, rfl⟩, rfl⟩)
  go_ret
  exact ⟨⟨_, by assumption, by assumption, rfl⟩, rfl⟩

/-- tablename.Base: a tail of the name. -/
theorem base_any (s : ByteArray) (w : World) (hs : s.size ≤ maxLen) :
    Calls Try.prog 20 #[.string s] w fun e w' => (∃ i : Nat, i ≤ s.size ∧ e = .returned (.string (s.extract i s.size))) ∧ w' = w := by
  have hs' := hs
  unfold maxLen at hs'
  go_enter Try.func20, Try.ntmps20
  go_wp2_with (go_at_call 21; refine (last_any _ _ hs).mono ?_; rintro e w' ⟨⟨i, h1, h2, rfl⟩, rfl⟩)
  go_ret
  exact ⟨⟨_, by omega, rfl⟩, rfl⟩
end Go.Proofs.Qxb6602844a
