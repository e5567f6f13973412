/-
  'ZZmariaDB' (16); and zzOutboxB1EndsWith at a string that is told as 'something, then the suffix'.
-/
import Derived.Test.Qxb6602844aMaria
namespace Go.Proofs.Qxb6602844a
open Go.ChangeShapes Go.WideShapes Go.ChangeAt Go.RowKit

theorem grown_drewN {W w : World} (h : Grown W w) (n : Nat) : Grown W (w.drewN n) := h

set_option maxHeartbeats 1000000 in
/-- ZZmariaDB hands the nine fields out. -/
theorem zz_any (s : ByteArray) (w : World) (hs : s.size ≤ 65536) (hq : cq s = 0) :
    Calls Try.prog 16 #[.string s] w fun e w' => ∃ c0 c1 add lock cl del fai rel und : ByteArray,
      e = .returned (.tuple #[.slice (some ⟨w.heap.size + 1, 0, none⟩) 2 2, .string add, .string ⟨#[]⟩, .string lock, .string cl, .string del, .string fai, .string rel, .string und]) ∧
      Good c0 c1 add lock cl del fai rel und ∧ w'.cell? ⟨w.heap.size + 1, 0, none⟩ = some (.string c0) ∧ w'.cell? ⟨w.heap.size + 1, 1, none⟩ = some (.string c1) ∧ Grown w w' := by
  have HQ : Hid (cq s = 0) := hq
  clear hq
  go_enter Try.func16, Try.ntmps16
  go_wp2_with fail
  refine (maria_any _ _ hs HQ.out).mono ?_
  rintro e w' ⟨c0, c1, add, lock, cl, del, fai, rel, und, rfl, rfl, good⟩
  go_wp2
  go_quiet (fail)
  go_wp2
  refine bodyPost_ret (v := .tuple #[.slice (some ⟨w.heap.size + 1, 0, none⟩) 2 2, .string add, .string ⟨#[]⟩, .string lock, .string cl, .string del, .string fai, .string rel, .string und]) (by simp [results, Try.results16]) rfl ⟨c0, c1, add, lock, cl, del, fai, rel, und, rfl, good, ?_, ?_, ?_⟩
  · go_simp
  · go_simp
  · exact grown_drewN ((((Grown.refl _).alloc _ _).alloc _ _).alloc _ _) nq
theorem extract_tail (a b : ByteArray) : (a ++ b).extract ((a ++ b).size - b.size) (a ++ b).size = b := by
  apply ByteArray.ext
  rw [ByteArray.data_extract, ByteArray.data_append, ByteArray.size_append]
  apply Array.toList_inj.1
  rw [Array.toList_extract, Array.toList_append, List.extract_eq_take_drop]
  have e1 : a.size + b.size - b.size = a.data.toList.length := by rw [Array.length_toList]; show _ = a.size; omega
  have e2 : a.size + b.size - a.data.toList.length = b.data.toList.length := by rw [Array.length_toList, Array.length_toList]; show a.size + b.size - a.size = b.size; omega
  rw [e1, e2, List.drop_left, List.take_length]

theorem ends_yes (s t : ByteArray) (w : World) (hs : s.size ≤ 1000000) (ht : ∃ a, s = a ++ t) :
    Calls Try.prog 14 #[.string s, .string t] w fun e w' => e = .returned (.bool true) ∧ w' = w := by
  obtain ⟨a, rfl⟩ := ht
  refine (ends_any (a ++ t) t w (by unfold maxLen; omega) (by rw [ByteArray.size_append]; omega)).mono fun e w' h => ?_
  rw [extract_tail] at h
  simpa using h
end Go.Proofs.Qxb6602844a
