/-
  PLAIN: bytes read as a big-endian number, in int's wrapping arithmetic.
-/
import Derived.WalkKit
import Derived.Laws.BitsAllLaws
namespace Go.Proofs.Qxb6602953a
open Go.RowKit

theorem wrap64_mod (x : Int) : ∃ q, wrap64 x = x + q * 18446744073709551616 := by
  unfold wrap64
  exact ⟨-((x + 9223372036854775808) / 18446744073709551616), by omega⟩
theorem wrap64_add_mul (x q : Int) : wrap64 (x + q * 18446744073709551616) = wrap64 x := by
  unfold wrap64
  have e : x + q * 18446744073709551616 + 9223372036854775808 = x + 9223372036854775808 + q * 18446744073709551616 := by omega
  rw [e, Int.add_mul_emod_self_right]
theorem wrap64_of (x y q : Int) (h : x = y + q * 18446744073709551616) : wrap64 x = wrap64 y := by rw [h, wrap64_add_mul]
theorem wrap64_id (x : Int) (h1 : -9223372036854775808 ≤ x) (h2 : x ≤ 9223372036854775807) : wrap64 x = x := by unfold wrap64; omega
theorem wrap64_add (x y : Int) : wrap64 (wrap64 x + wrap64 y) = wrap64 (x + y) := by
  obtain ⟨p, hp⟩ := wrap64_mod x
  obtain ⟨q, hq⟩ := wrap64_mod y
  rw [hp, hq]
  exact wrap64_of _ _ (p + q) (by rw [Int.add_mul]; omega)
theorem wrap64_mul (x y : Int) : wrap64 (x * wrap64 y) = wrap64 (x * y) := by
  obtain ⟨q, hq⟩ := wrap64_mod y
  rw [hq]
  exact wrap64_of _ _ (x * q) (by rw [Int.mul_add, Int.mul_assoc])
theorem wrap64_mul' (x y : Int) : wrap64 (wrap64 x * y) = wrap64 (x * y) := by
  rw [Int.mul_comm, wrap64_mul, Int.mul_comm]
theorem wrap64_add_r (x y : Int) : wrap64 (x + wrap64 y) = wrap64 (x + y) := by
  obtain ⟨q, hq⟩ := wrap64_mod y
  rw [hq]
  exact wrap64_of _ _ q (by omega)

/-- 'v<<8 | c'. -/
theorem shl_or (v c : Int) (h1 : 0 ≤ c) (h2 : c ≤ 255) : bits .or .i64 (wrap64 (v * 256)) c = wrap64 (v * 256 + c) := by
  show IntKind.i64.wrap ((BitVec.ofInt 64 (wrap64 (v * 256)) ||| BitVec.ofInt 64 c).toNat : Int) = _
  have e1 : (BitVec.ofInt 64 (wrap64 (v * 256))).toNat = ((v * 256) % 18446744073709551616).toNat := by
    rw [BitVec.toNat_ofInt]
    congr 1
    unfold wrap64
    simp only [Nat.reducePow, Int.cast_ofNat_Int]
    omega
  have e2 : (BitVec.ofInt 64 c).toNat = c.toNat := by
    rw [BitVec.toNat_ofInt]
    congr 1
    simp only [Nat.reducePow, Int.cast_ofNat_Int]
    omega
  obtain ⟨q, hq⟩ : ∃ q : Nat, ((v * 256) % 18446744073709551616).toNat = 2 ^ 8 * q := ⟨((v * 256) % 18446744073709551616).toNat / 256, by omega⟩
  rw [BitVec.toNat_or, e1, e2, hq, ← Nat.two_pow_add_eq_or_of_lt (by omega), ← hq, IntKind.wrap_i64]
  unfold wrap64
  omega

/-- v, then k bytes read behind it. -/
def big (v : Int) (z : Nat → Int) : Nat → Int
  | 0 => v
  | k + 1 => big v z k * 256 + z k
/-- The last d bytes of n read as a number. -/
def tl (z : Nat → Int) (n : Nat) : Nat → Int
  | 0 => 0
  | d + 1 => tl z n d + z (n - (d + 1)) * 256 ^ d
theorem big_tl (v : Int) (z : Nat → Int) (n : Nat) : ∀ d, d ≤ n → big v z n = big v z (n - d) * 256 ^ d + tl z n d
  | 0, _ => by simp [tl]
  | d + 1, hd => by
    rw [big_tl v z n d (by omega)]
    have e : n - d = (n - (d + 1)) + 1 := by omega
    rw [e]
    show (big v z (n - (d + 1)) * 256 + z (n - (d + 1))) * 256 ^ d + tl z n d = big v z (n - (d + 1)) * 256 ^ (d + 1) + (tl z n d + z (n - (d + 1)) * 256 ^ d)
    rw [Int.add_mul, Int.pow_succ, Int.mul_assoc, Int.mul_comm 256 (256 ^ d)]
    omega
theorem big_all (v : Int) (z : Nat → Int) (n : Nat) : big v z n = v * 256 ^ n + tl z n n := by
  have := big_tl v z n n (Nat.le_refl _)
  rw [Nat.sub_self] at this
  exact this
theorem tl_step (z : Nat → Int) (n d k : Nat) (e : n - (d + 1) = k) : wrap64 (wrap64 (tl z n d) + wrap64 (z k * wrap64 (256 ^ d))) = wrap64 (tl z n (d + 1)) := by
  rw [wrap64_mul, wrap64_add, ← e]
  rfl
theorem pow_step (d : Nat) : wrap64 (wrap64 (256 ^ d) * 256) = wrap64 (256 ^ (d + 1)) := by
  rw [wrap64_mul', Int.pow_succ]
theorem big_step (v : Int) (z : Nat → Int) (k : Nat) (z1 : 0 ≤ z k) (z2 : z k ≤ 255) : bits .or .i64 (wrap64 (wrap64 (big v z k) * 256)) (z k) = wrap64 (big v z (k + 1)) := by
  rw [shl_or _ _ z1 z2]
  show _ = wrap64 (big v z k * 256 + z k)
  obtain ⟨q, hq⟩ := wrap64_mod (big v z k)
  rw [hq]
  exact wrap64_of _ _ (q * 256) (by rw [Int.add_mul, Int.mul_assoc q, Int.mul_assoc q, Int.mul_comm 18446744073709551616]; omega)
end Go.Proofs.Qxb6602953a
