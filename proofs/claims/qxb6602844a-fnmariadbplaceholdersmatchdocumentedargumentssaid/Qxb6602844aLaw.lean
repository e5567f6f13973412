/-
  THE LAW's OWN WALK: 'FnMariaDBPlaceholdersMatchDocumentedArguments' (6) returns true.
-/
import Derived.Test.Qxb6602844aZz
namespace Go.Proofs.Qxb6602844a
open Go.ChangeShapes Go.WideShapes Go.ChangeAt Go.RowKit

theorem law_long (s : ByteArray) (w : World) (hm : s.size ≤ maxLen) (h : 1048576 < s.size) :
    Calls Try.prog 6 #[.string s] w fun e w' => e = .returned (.bool true) ∧ Grown w w' := by
  go_enter Try.func6, Try.ntmps6
  go_wp2_with (go_at_call 17; refine (bytes_no _ _ h hm).mono ?_; rintro e w' ⟨rfl, rfl⟩)
  go_ret
  exact ⟨rfl, Grown.refl _⟩
theorem law_mid (s : ByteArray) (w : World) (h : s.size ≤ 1048576) (h2 : 65536 < s.size) :
    Calls Try.prog 6 #[.string s] w fun e w' => e = .returned (.bool true) ∧ Grown w w' := by
  go_enter Try.func6, Try.ntmps6
  go_wp2_with (go_at_call 17; refine (bytes_yes _ _ h).mono ?_; rintro e w' ⟨rfl, rfl⟩)
  go_ret
  exact ⟨rfl, Grown.refl _⟩
theorem law_mark (s : ByteArray) (w : World) (h : s.size ≤ 65536) (hq : 0 < cq s) :
    Calls Try.prog 6 #[.string s] w fun e w' => e = .returned (.bool true) ∧ Grown w w' := by
  have hl := cq_le s
  go_enter Try.func6, Try.ntmps6
  go_wp2_with (first | (go_at_call 17; refine (bytes_yes _ _ (by omega)).mono ?_; rintro e w' ⟨rfl, rfl⟩) | (go_at_call 9; refine (count_any _ _ (by unfold maxLen; omega)).mono ?_; rintro e w' ⟨rfl, rfl⟩))
  go_ret
  exact ⟨rfl, Grown.refl _⟩
theorem nonempty_of_cq (s : ByteArray) (h : 0 < cq s) : s.toList.isEmpty = false := by
  rw [ByteArray.toList_eq]
  cases hl : s.data.toList with
  | nil => unfold cq cqL at h; rw [hl] at h; simp at h
  | cons _ _ => rfl

set_option maxHeartbeats 1000000 in
theorem law_main (s : ByteArray) (w : World) (h : s.size ≤ 65536) (hq : cq s = 0) :
    Calls Try.prog 6 #[.string s] w fun e w' => e = .returned (.bool true) ∧ Grown w w' := by
  have hq' : ((cq s : Nat) : Int) = 0 := by omega
  have HQ : Hid (cq s = 0) := hq
  clear hq
  go_enter Try.func6, Try.ntmps6
  go_wp2_with (first | (go_at_call 17; refine (bytes_yes _ _ (by omega)).mono ?_; rintro e w' ⟨rfl, rfl⟩) | (go_at_call 9; refine (count_any _ _ (by unfold maxLen; omega)).mono ?_; rintro e w' ⟨rfl, rfl⟩))
  clear hq'
  refine (zz_any _ _ h HQ.out).mono ?_
  rintro e w' ⟨c0, c1, add, lock, cl, del, fai, rel, und, rfl, good, hc0, hc1, hg⟩
  obtain ⟨⟨z0, z1, z2, z3, z4, z5, z6, z7, z8⟩, ⟨n0, n1, n2, n3, n4, n5, n6, n7, n8⟩, e0, e1, e2, e3⟩ := good
  have hl := nonempty_of_cq lock (by omega)
  have hcl := nonempty_of_cq cl (by omega)
  have m0 : ((cq c0 : Nat) : Int) = 0 := by omega
  have m1 : ((cq c1 : Nat) : Int) = 0 := by omega
  have m2 : ((cq add : Nat) : Int) = 2 := by omega
  have m3 : ((cq lock : Nat) : Int) = 1 := by omega
  have m4 : ((cq cl : Nat) : Int) = 2 := by omega
  have m5 : ((cq del : Nat) : Int) = 2 := by omega
  have m6 : ((cq fai : Nat) : Int) = 4 := by omega
  have m7 : ((cq rel : Nat) : Int) = 2 := by omega
  have m8 : ((cq und : Nat) : Int) = 0 := by omega
  clear n0 n1 n2 n3 n4 n5 n6 n7 n8
  go_wp2_with (first | (go_at_call 9; refine (count_any _ _ (by unfold maxLen; omega)).mono ?_; rintro e w' ⟨rfl, rfl⟩) | (go_at_call 14; refine (ends_yes _ _ _ (by assumption) (by assumption)).mono ?_; rintro e w' ⟨rfl, rfl⟩))
  go_ret
  exact ⟨rfl, by assumption⟩
end Go.Proofs.Qxb6602844a
