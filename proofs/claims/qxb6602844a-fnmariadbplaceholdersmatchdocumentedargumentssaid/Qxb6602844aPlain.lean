/-
  PLAIN MATHEMATICS: how many question marks a string of bytes holds. No Go in sight.
-/
import Derived.Below
namespace Go.Proofs.Qxb6602844a
open Go.RowKit

/-- How many bytes of the list are the question mark. -/
def cqL (l : List UInt8) : Nat := (l.filter fun b => b == 63).length
/-- How many bytes of the string are the question mark. -/
def cq (s : ByteArray) : Nat := cqL s.data.toList

theorem cqL_append (a b : List UInt8) : cqL (a ++ b) = cqL a + cqL b := by
  unfold cqL; rw [List.filter_append, List.length_append]
theorem cqL_le (l : List UInt8) : cqL l ≤ l.length := by
  unfold cqL; exact List.length_filter_le _ _
theorem cqL_snoc (l : List UInt8) (c : UInt8) : (cqL (l ++ [c]) : Int) = cqL l + if ((c.toNat : Int) == 63) = true then 1 else 0 := by
  rw [cqL_append]
  have e : (c == 63) = ((c.toNat : Int) == 63) := by
    rw [Bool.eq_iff_iff]
    simp only [beq_iff_eq, ← UInt8.toNat_inj, UInt8.reduceToNat]
    omega
  unfold cqL
  by_cases h : ((c.toNat : Int) == 63) = true
  · simp [e, h]
  · simp [e, h]
theorem cq_append (a b : ByteArray) : cq (a ++ b) = cq a + cq b := by
  unfold cq
  rw [ByteArray.data_append, Array.toList_append, cqL_append]
theorem cq_le (s : ByteArray) : cq s ≤ s.size := by
  unfold cq
  have := cqL_le s.data.toList
  rw [Array.length_toList] at this
  exact this
/-- A stretch of a string holds no more question marks than the string. -/
theorem cqL_sub (l : List UInt8) (i : Nat) : cqL (l.drop i) ≤ cqL l := by
  have := cqL_append (l.take i) (l.drop i)
  rw [List.take_append_drop] at this
  omega
theorem take_snoc (s : ByteArray) (k : Nat) (h : k < s.size) : s.data.toList.take (k + 1) = s.data.toList.take k ++ [s[k]] := by
  rw [List.take_succ_eq_append_getElem (by simpa using h)]; rfl
theorem cqL_step (s : ByteArray) (k : Nat) (h : k < s.size) :
    (cqL (s.data.toList.take (k + 1)) : Int) = cqL (s.data.toList.take k) + if ((s[k].toNat : Int) == 63) = true then 1 else 0 := by
  rw [take_snoc s k h, cqL_snoc]
theorem cqL_all (s : ByteArray) (k : Nat) (h : s.size ≤ k) : cqL (s.data.toList.take k) = cq s := by
  unfold cq
  rw [List.take_of_length_le (by simpa using h)]
theorem cq_extract (s : ByteArray) (k : Nat) : cq (s.extract k s.size) ≤ cq s := by
  unfold cq
  rw [ByteArray.data_extract]
  simp only [Array.toList_extract]
  have e : s.data.toList.extract k s.size = s.data.toList.drop k := by
    rw [List.extract_eq_take_drop]
    apply List.take_of_length_le
    simp
  rw [e]
  exact cqL_sub _ _

theorem ret_int {k : IntKind} {a b : Int} (h : a = b) : Ending.returned (.int k a) = .returned (.int k b) := by rw [h]
end Go.Proofs.Qxb6602844a
