/-
  'mariaDB' (19) AND 'ZZmariaDB' (16): the nine statements, told by what the law asks of them.
-/
import Derived.Test.Qxb6602844aLeaf
import Derived.Deep.QuietTactic
import Derived.BigQuiet
namespace Go.Proofs.Qxb6602844a
open Go.ChangeShapes Go.WideShapes Go.ChangeAt Go.RowKit

/-- The struct result of 'mariaDB', read back out of its box. -/
theorem res19 (tmps : Array Value) (w : World) (o : Obj) (a0 a1 a2 a3 a4 a5 a6 a7 a8 : Value) (h2 : tmps[2]?.getD undef = .pointer (some ⟨w.heap.size, 0, none⟩)) :
    (results Try.f19 tmps).run Try.prog ((w.alloc (.cells #[a0, a1, a2, a3, a4, a5, a6, a7, a8] 32)).alloc o) = .ok (.agg #[a0, a1, a2, a3, a4, a5, a6, a7, a8]) ((w.alloc (.cells #[a0, a1, a2, a3, a4, a5, a6, a7, a8] 32)).alloc o) := by
  simp only [results, Try.results19]
  simp [go_sem, h2]

theorem mk_size (a : Array UInt8) : (ByteArray.mk a).size = a.size := rfl

theorem split_lit (x L S : ByteArray) (n : Nat) (h : L = L.extract 0 n ++ S) : ∃ a, x ++ L = a ++ S := by
  refine ⟨x ++ L.extract 0 n, ?_⟩
  rw [ByteArray.append_assoc, ← h]

/-- What the law asks of MariaDB's nine statements, for a table's name without a question mark. -/
structure Good (c0 c1 add lock cl del fai rel und : ByteArray) : Prop where
  z0 : c0.size ≤ 1000000 ∧ c1.size ≤ 1000000 ∧ add.size ≤ 1000000 ∧ lock.size ≤ 1000000 ∧ cl.size ≤ 1000000 ∧ del.size ≤ 1000000 ∧ fai.size ≤ 1000000 ∧ rel.size ≤ 1000000 ∧ und.size ≤ 1000000
  n0 : cq c0 = 0 ∧ cq c1 = 0 ∧ cq add = 2 ∧ cq lock = 1 ∧ cq cl = 2 ∧ cq del = 2 ∧ cq fai = 4 ∧ cq rel = 2 ∧ cq und = 0
  e0 : ∃ a, cl = a ++ ⟨#[32, 87, 72, 69, 82, 69, 32, 105, 100, 32, 73, 78, 32]⟩
  e1 : ∃ a, del = a ++ ⟨#[32, 87, 72, 69, 82, 69, 32, 105, 100, 32, 61, 32, 63, 32, 65, 78, 68, 32, 99, 108, 97, 105, 109, 32, 61, 32, 63]⟩
  e2 : ∃ a, fai = a ++ ⟨#[32, 87, 72, 69, 82, 69, 32, 105, 100, 32, 61, 32, 63, 32, 65, 78, 68, 32, 99, 108, 97, 105, 109, 32, 61, 32, 63]⟩
  e3 : ∃ a, rel = a ++ ⟨#[32, 87, 72, 69, 82, 69, 32, 105, 100, 32, 61, 32, 63, 32, 65, 78, 68, 32, 99, 108, 97, 105, 109, 32, 61, 32, 63]⟩

set_option maxHeartbeats 1000000 in
theorem maria_any (s : ByteArray) (w : World) (hs : s.size ≤ 65536) (hq : cq s = 0) :
    Calls Try.prog 19 #[.string s] w fun e w' => ∃ c0 c1 add lock cl del fai rel und : ByteArray,
      e = .returned (.agg #[.slice (some ⟨w.heap.size + 1, 0, none⟩) 2 2, .string add, .string ⟨#[]⟩, .string lock, .string cl, .string del, .string fai, .string rel, .string und]) ∧
      w' = (w.alloc (.cells #[.slice (some ⟨w.heap.size + 1, 0, none⟩) 2 2, .string add, .string ⟨#[]⟩, .string lock, .string cl, .string del, .string fai, .string rel, .string und] 32)).alloc (.cells #[.string c0, .string c1] 9) ∧
      Good c0 c1 add lock cl del fai rel und := by
  have HQ : Hid (cq s = 0) := hq
  clear hq
  go_enter Try.func19, Try.ntmps19
  go_wp2_with (first | (go_at_call 20; refine (base_any _ _ (by unfold maxLen; omega)).mono ?_; rintro e w' ⟨⟨i, hi, rfl⟩, rfl⟩) | fail)
  refine bodyPost_ret (res19 _ _ _ _ _ _ _ _ _ _ _ _ rfl) rfl ⟨_, _, _, _, _, _, _, _, _, rfl, rfl, ?_⟩
  have hq := HQ.out
  have hx : cq (s.extract i s.size) = 0 := by have := cq_extract s i; omega
  have hxs : (s.extract i s.size).size ≤ s.size := by rw [ByteArray.size_extract]; omega
  constructor
  · simp only [ByteArray.size_append, mk_size, List.size_toArray, List.length_cons, List.length_nil]
    refine ⟨?_, ?_, ?_, ?_, ?_, ?_, ?_, ?_, ?_⟩ <;> omega
  · simp only [cq_append, hq, hx]
    refine ⟨?_, ?_, ?_, ?_, ?_, ?_, ?_, ?_, ?_⟩ <;> decide +kernel
  · exact split_lit _ _ _ 71 (by decide +kernel)
  · exact ⟨_, rfl⟩
  · exact ⟨_, rfl⟩
  · exact ⟨_, rfl⟩
end Go.Proofs.Qxb6602844a
