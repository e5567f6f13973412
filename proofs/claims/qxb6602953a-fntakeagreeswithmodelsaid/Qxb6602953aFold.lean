/-
  equalLowerASCII (32), foldByte (35), foldEqual (33), hasASCIIUpper (24), lowerMatch (20).
-/
import Derived.Test.Qxb6602953aCopy
namespace Go.Proofs.Qxb6602953a
open Go.ChangeShapes Go.WideShapes Go.ChangeAt Go.RowKit
set_option linter.unusedVariables false

/-! ### Plain -/
/-- The first n places all say yes. -/
def allB (p : Nat → Bool) : Nat → Bool
  | 0 => true
  | k + 1 => allB p k && p k
theorem allB_iff {p : Nat → Bool} : ∀ {n : Nat}, allB p n = true ↔ ∀ k, k < n → p k = true
  | 0 => ⟨fun _ k h => absurd h (by omega), fun _ => rfl⟩
  | n + 1 => by
    unfold allB
    rw [Bool.and_eq_true, allB_iff]
    constructor
    · rintro ⟨h1, h2⟩ k hk
      by_cases e : k = n
      · subst e; exact h2
      · exact h1 k (by omega)
    · intro h
      exact ⟨fun k hk => h k (by omega), h n (by omega)⟩
theorem allB_step {p : Nat → Bool} {k : Nat} (h : allB p k = true) (hp : p k = true) : allB p (k + 1) = true := by
  unfold allB; rw [h, hp]; rfl
theorem allB_no {p : Nat → Bool} {k n : Nat} (hk : k < n) (hp : p k = false) : allB p n = false := by
  cases h : allB p n with
  | false => rfl
  | true => rw [allB_iff.1 h k hk] at hp; cases hp

/-- An ASCII capital to its small letter. -/
def lowB (c : Int) : Int := if 65 ≤ c ∧ c ≤ 90 then c + 32 else c
def upB (c : Int) : Bool := decide (65 ≤ c ∧ c ≤ 90)
/-- Byte k of a string. -/
def bAt (s : ByteArray) (k : Nat) : Int := if h : k < s.size then (s[k].toNat : Int) else 0
theorem bAt_eq (s : ByteArray) (k : Nat) (h : k < s.size) : bAt s k = (s[k].toNat : Int) := by unfold bAt; rw [dif_pos h]
theorem bAt_bd (s : ByteArray) (k : Nat) : 0 ≤ bAt s k ∧ bAt s k ≤ 255 := by
  unfold bAt
  split
  · have := UInt8.toNat_lt s[k]
    omega
  · omega

def eqL (z : Nat → Int) (len : Nat) (s : ByteArray) : Bool := (len == s.size) && allB (fun k => lowB (z k) == bAt s k) len
def feL (z : Nat → Int) (len : Nat) (s : ByteArray) : Bool := (len == s.size) && allB (fun k => lowB (z k) == lowB (bAt s k)) len
def huL (s : ByteArray) : Bool := !allB (fun k => !upB (bAt s k)) s.size

theorem low_pt (x y : Int) : (lowB x == y) = (!upB y && (lowB x == lowB y)) := by
  rw [Bool.eq_iff_iff]
  simp only [Bool.and_eq_true, beq_iff_eq, Bool.not_eq_true', upB, decide_eq_false_iff_not]
  unfold lowB
  by_cases hx : 65 ≤ x ∧ x ≤ 90
  · rw [if_pos hx]
    by_cases hy : 65 ≤ y ∧ y ≤ 90
    · rw [if_pos hy]; omega
    · rw [if_neg hy]; omega
  · rw [if_neg hx]
    by_cases hy : 65 ≤ y ∧ y ≤ 90
    · rw [if_pos hy]; omega
    · rw [if_neg hy]; omega
/-- THE PLAIN LAW. -/
theorem eq_low (z : Nat → Int) (len : Nat) (s : ByteArray) : eqL z len s = (!huL s && feL z len s) := by
  unfold eqL feL huL
  by_cases hl : len = s.size
  · subst hl
    rw [Bool.eq_iff_iff]
    simp only [Bool.and_eq_true, Bool.not_not, beq_self_eq_true, true_and, allB_iff]
    constructor
    · intro h
      refine ⟨fun k hk => ?_, fun k hk => ?_⟩
      · have := h k hk; rw [low_pt, Bool.and_eq_true] at this; exact this.1
      · have := h k hk; rw [low_pt, Bool.and_eq_true] at this; exact this.2
    · rintro ⟨h1, h2⟩ k hk
      rw [low_pt, Bool.and_eq_true]
      exact ⟨h1 k hk, h2 k hk⟩
  · have : (len == s.size) = false := by simpa using hl
    rw [this]
    simp

/-! ### The walks -/
set_option maxHeartbeats 800000 in
theorem el_any (a : Option Addr) (len cap : Nat) (z : Nat → Int) (s : ByteArray) (w : World) (hr : ByteRow w a len z) (hz : ∀ k, 0 ≤ z k ∧ z k ≤ 255) (hlen : len ≤ 1048576) :
    Calls Try.prog 32 #[.slice a len cap, .string s] w fun e w' => e = .returned (.bool (eqL z len s)) ∧ w' = w := by
  have HZ : Hid (∀ k, 0 ≤ z k ∧ z k ≤ 255) := hz
  have HR : Hid (ByteRow w a len z) := hr
  clear hz hr
  by_cases hl : len = s.size
  · have hl' : ((len : Int) != (s.size : Int)) = false := by simp; omega
    have hl1 : len ≤ s.size := by omega
    have hl2 : s.size ≤ len := by omega
    have HL : Hid (len = s.size) := hl
    clear hl
    go_enter Try.func32, Try.ntmps32
    go_wp2
    go_loop [14] (fun i => ∃ k : Nat, k ≤ len ∧ i = .int .i64 k ∧ Hid (allB (fun k => lowB (z k) == bAt s k) k = true)) (fun i => len - (intOf i).toNat)
    case atStart => exact ⟨0, Nat.zero_le _, rfl, rfl⟩
    case round =>
      obtain ⟨k, hk, rfl, HA⟩ := hrel
      by_cases hlt : k < len
      · rcases HR.out with h | ⟨b, off, rfl, hc⟩
        · omega
        have ck := hc k hlt
        obtain ⟨z1, z2⟩ := HZ.out k
        have hks : k < s.size := by omega
        clear hc
        by_cases hu : 65 ≤ z k ∧ z k ≤ 90
        · obtain ⟨u1, u2⟩ := hu
          by_cases he : z k + 32 = (s[k].toNat : Int)
          · have hb : ((z k + 32) != (s[k].toNat : Int)) = false := by simpa using he
            have HP : Hid ((lowB (z k) == bAt s k) = true) := by
              unfold Hid lowB; rw [if_pos ⟨u1, u2⟩, bAt_eq s k hks]; simpa using he
            clear he
            go_wp2
            go_round
            case rel => exact ⟨k + 1, by omega, by go_num, allB_step HA.out HP.out⟩
            case measure => simp [intOf]; omega
          · have hb : ((z k + 32) != (s[k].toNat : Int)) = true := by simpa using he
            have HP : Hid ((lowB (z k) == bAt s k) = false) := by
              unfold Hid lowB; rw [if_pos ⟨u1, u2⟩, bAt_eq s k hks]; simpa using he
            clear he
            go_wp2
            go_ret
            exact ⟨ret_bool (by unfold eqL; rw [allB_no hlt HP.out, Bool.and_false]), rfl⟩
        · rcases (show z k < 65 ∨ 90 < z k by omega) with hu1 | hu1
          all_goals clear hu
          · skip
            by_cases he : z k = (s[k].toNat : Int)
            · have hb : (z k != (s[k].toNat : Int)) = false := by simpa using he
              have HP : Hid ((lowB (z k) == bAt s k) = true) := by
                unfold Hid lowB; rw [if_neg (by omega), bAt_eq s k hks]; simpa using he
              clear he
              go_wp2
              go_round
              case rel => exact ⟨k + 1, by omega, by go_num, allB_step HA.out HP.out⟩
              case measure => simp [intOf]; omega
            · have hb : (z k != (s[k].toNat : Int)) = true := by simpa using he
              have HP : Hid ((lowB (z k) == bAt s k) = false) := by
                unfold Hid lowB; rw [if_neg (by omega), bAt_eq s k hks]; simpa using he
              clear he
              go_wp2
              go_ret
              exact ⟨ret_bool (by unfold eqL; rw [allB_no hlt HP.out, Bool.and_false]), rfl⟩
          · have u0 : 65 ≤ z k := by omega
            by_cases he : z k = (s[k].toNat : Int)
            · have hb : (z k != (s[k].toNat : Int)) = false := by simpa using he
              have HP : Hid ((lowB (z k) == bAt s k) = true) := by
                unfold Hid lowB; rw [if_neg (by omega), bAt_eq s k hks]; simpa using he
              clear he
              go_wp2
              go_round
              case rel => exact ⟨k + 1, by omega, by go_num, allB_step HA.out HP.out⟩
              case measure => simp [intOf]; omega
            · have hb : (z k != (s[k].toNat : Int)) = true := by simpa using he
              have HP : Hid ((lowB (z k) == bAt s k) = false) := by
                unfold Hid lowB; rw [if_neg (by omega), bAt_eq s k hks]; simpa using he
              clear he
              go_wp2
              go_ret
              exact ⟨ret_bool (by unfold eqL; rw [allB_no hlt HP.out, Bool.and_false]), rfl⟩
      · obtain rfl : k = len := by omega
        go_wp2
        go_ret
        exact ⟨ret_bool (by unfold eqL; rw [HA.out, Bool.and_true]; simpa using HL.out), rfl⟩
  · have hl' : ((len : Int) != (s.size : Int)) = true := by simp; omega
    go_enter Try.func32, Try.ntmps32
    go_wp2
    go_ret
    exact ⟨ret_bool (by unfold eqL; have : (len == s.size) = false := by simpa using hl
                        rw [this]; rfl), rfl⟩

theorem zzel_any (a : Option Addr) (len cap : Nat) (z : Nat → Int) (s : ByteArray) (w : World) (hr : ByteRow w a len z) (hz : ∀ k, 0 ≤ z k ∧ z k ≤ 255) (hlen : len ≤ 1048576) :
    Calls Try.prog 19 #[.slice a len cap, .string s] w fun e w' => e = .returned (.bool (eqL z len s)) ∧ w' = w := by
  have HZ : Hid (∀ k, 0 ≤ z k ∧ z k ≤ 255) := hz
  have HR : Hid (ByteRow w a len z) := hr
  clear hz hr
  go_enter Try.func19, Try.ntmps19
  go_wp2_with (go_at_call 32; refine (el_any _ _ _ z _ _ HR.out HZ.out hlen).mono ?_; rintro e w' ⟨rfl, rfl⟩)
  go_ret
  exact ⟨rfl, rfl⟩

theorem or_low : ∀ c : Fin 26, bits .or .u8 (65 + (c.val : Int)) 32 = 97 + (c.val : Int) := by decide +kernel
theorem or_low' (c : Int) (h1 : 65 ≤ c) (h2 : c ≤ 90) : bits .or .u8 c 32 = c + 32 := by
  have h := or_low ⟨(c - 65).toNat, by omega⟩
  have e : (65 : Int) + (((c - 65).toNat : Nat) : Int) = c := by omega
  simp only [e] at h
  rw [h]; omega
theorem fold_any (c : Int) (w : World) (h1 : 0 ≤ c) (h2 : c ≤ 255) :
    Calls Try.prog 35 #[.int .u8 c] w fun e w' => e = .returned (.int .u8 (lowB c)) ∧ w' = w := by
  by_cases hu : 65 ≤ c
  · by_cases hv : c ≤ 90
    · have HO : Hid (bits .or .u8 c 32 = c + 32) := or_low' c hu hv
      go_enter Try.func35, Try.ntmps35
      go_wp2
      go_ret
      exact ⟨ret_int (by unfold lowB; rw [if_pos ⟨hu, hv⟩]; exact HO.out), rfl⟩
    · go_enter Try.func35, Try.ntmps35
      go_wp2
      go_ret
      exact ⟨ret_int (by unfold lowB; rw [if_neg (by omega)]), rfl⟩
  · go_enter Try.func35, Try.ntmps35
    go_wp2
    go_ret
    exact ⟨ret_int (by unfold lowB; rw [if_neg (by omega)]), rfl⟩

set_option maxHeartbeats 800000 in
theorem hu_any (s : ByteArray) (w : World) (hs : s.size ≤ 1048576) :
    Calls Try.prog 24 #[.string s] w fun e w' => e = .returned (.bool (huL s)) ∧ w' = w := by
  go_enter Try.func24, Try.ntmps24
  go_wp2
  go_loop [3] (fun i => ∃ k : Nat, k ≤ s.size ∧ i = .int .i64 k ∧ Hid (allB (fun k => !upB (bAt s k)) k = true)) (fun i => s.size - (intOf i).toNat)
  case atStart => exact ⟨0, Nat.zero_le _, rfl, rfl⟩
  case round =>
    obtain ⟨k, hk, rfl, HA⟩ := hrel
    by_cases hlt : k < s.size
    · by_cases hu : (65 : Int) ≤ (s[k].toNat : Int)
      · by_cases hv : (s[k].toNat : Int) ≤ 90
        · have HP : Hid ((!upB (bAt s k)) = false) := by unfold Hid upB; rw [bAt_eq s k hlt, decide_eq_true ⟨hu, hv⟩]; rfl
          go_wp2
          go_ret
          exact ⟨ret_bool (by unfold huL; rw [allB_no hlt HP.out]; rfl), rfl⟩
        · have HP : Hid ((!upB (bAt s k)) = true) := by unfold Hid upB; rw [bAt_eq s k hlt, decide_eq_false (fun h => hv h.2)]; rfl
          go_wp2
          go_round
          case rel => exact ⟨k + 1, by omega, by go_num, allB_step HA.out HP.out⟩
          case measure => simp [intOf]; omega
      · have HP : Hid ((!upB (bAt s k)) = true) := by unfold Hid upB; rw [bAt_eq s k hlt, decide_eq_false (fun h => hu h.1)]; rfl
        go_wp2
        go_round
        case rel => exact ⟨k + 1, by omega, by go_num, allB_step HA.out HP.out⟩
        case measure => simp [intOf]; omega
    · obtain rfl : k = s.size := by omega
      go_wp2
      go_ret
      exact ⟨ret_bool (by unfold huL; rw [HA.out]; rfl), rfl⟩

set_option maxHeartbeats 800000 in
theorem fe_any (a : Option Addr) (len cap : Nat) (z : Nat → Int) (s : ByteArray) (w : World) (hr : ByteRow w a len z) (hz : ∀ k, 0 ≤ z k ∧ z k ≤ 255) (hlen : len ≤ 1048576) :
    Calls Try.prog 33 #[.slice a len cap, .string s] w fun e w' => e = .returned (.bool (feL z len s)) ∧ ∃ q, w' = w.drewN q := by
  have HZ : Hid (∀ k, 0 ≤ z k ∧ z k ≤ 255) := hz
  have HR : Hid (ByteRow w a len z) := hr
  clear hz hr
  by_cases hl : len = s.size
  · have hl' : ((len : Int) != (s.size : Int)) = false := by simp; omega
    have hl1 : len ≤ s.size := by omega
    have hl2 : s.size ≤ len := by omega
    have HL : Hid (len = s.size) := hl
    clear hl
    go_enter Try.func33, Try.ntmps33
    go_wp2
    go_loopw [5] (fun i wr => ∃ k : Nat, k ≤ len ∧ i = .int .i64 k ∧ Hid (allB (fun k => lowB (z k) == lowB (bAt s k)) k = true) ∧ Hid (∃ q, wr = w.drewN q)) (fun i _ => len - (intOf i).toNat)
    case atStart => exact ⟨0, Nat.zero_le _, rfl, rfl, 0, rfl⟩
    case round =>
      obtain ⟨k, hk, rfl, HA, HW⟩ := hrel
      by_cases hlt : k < len
      · rcases HR.out with h | ⟨b, off, rfl, hc⟩
        · omega
        have ck : wr.cell? ⟨b, off + k, none⟩ = some (.int .u8 (z k)) := by
          obtain ⟨q, hq⟩ := HW.out
          rw [hq]
          exact hc k hlt
        obtain ⟨z1, z2⟩ := HZ.out k
        have hks : k < s.size := by omega
        obtain ⟨y1, y2⟩ := bAt_bd s k
        rw [bAt_eq s k hks] at y1 y2
        have hlt' : (k : Int) < (len : Int) := by omega
        have hks' : (k : Int) < (s.size : Int) := by omega
        clear hc
        by_cases he : lowB (z k) = lowB (s[k].toNat : Int)
        · have hb : (lowB (z k) != lowB (s[k].toNat : Int)) = false := by simpa using he
          have HP : Hid ((lowB (z k) == lowB (bAt s k)) = true) := by unfold Hid; rw [bAt_eq s k hks]; simpa using he
          clear he
          go_wp2_with fail
          go_quiet ((go_at_call 35; exact Calls.quiet_of_same (fold_any _ _ (by omega) (by omega))))
          go_wp2
          go_roundw
          case rel =>
            refine ⟨k + 1, by omega, by go_num, allB_step HA.out HP.out, ?_⟩
            obtain ⟨q, rfl⟩ := HW.out
            exact ⟨_, World.drewN_drewN _ _ _⟩
          case measure => simp [intOf]; omega
        · have hb : (lowB (z k) != lowB (s[k].toNat : Int)) = true := by simpa using he
          have HP : Hid ((lowB (z k) == lowB (bAt s k)) = false) := by unfold Hid; rw [bAt_eq s k hks]; simpa using he
          clear he
          go_wp2_with fail
          go_quiet ((go_at_call 35; exact Calls.quiet_of_same (fold_any _ _ (by omega) (by omega))))
          go_wp2
          go_ret
          obtain ⟨q, rfl⟩ := HW.out
          exact ⟨ret_bool (by unfold feL; rw [allB_no hlt HP.out, Bool.and_false]), _, World.drewN_drewN _ _ _⟩
      · obtain rfl : k = len := by omega
        go_wp2
        go_ret
        exact ⟨ret_bool (by unfold feL; rw [HA.out, Bool.and_true]; simpa using HL.out), HW.out⟩
  · have hl' : ((len : Int) != (s.size : Int)) = true := by simp; omega
    go_enter Try.func33, Try.ntmps33
    go_wp2
    go_ret
    exact ⟨ret_bool (by unfold feL; have : (len == s.size) = false := by simpa using hl
                        rw [this]; rfl), 0, rfl⟩

/-- lowerMatch. -/
theorem lm_any (a : Option Addr) (len cap : Nat) (z : Nat → Int) (s : ByteArray) (w : World) (hr : ByteRow w a len z) (hz : ∀ k, 0 ≤ z k ∧ z k ≤ 255) (hlen : len ≤ 1048576) (hs : s.size ≤ 1048576) :
    Calls Try.prog 20 #[.slice a len cap, .string s] w fun e w' => e = .returned (.bool (eqL z len s)) ∧ ∃ q, w' = w.drewN q := by
  have HZ : Hid (∀ k, 0 ≤ z k ∧ z k ≤ 255) := hz
  have HR : Hid (ByteRow w a len z) := hr
  have HE : Hid (eqL z len s = (!huL s && feL z len s)) := eq_low z len s
  clear hz hr
  cases hu : huL s with
  | true =>
    have HU : Hid (huL s = true) := hu
    go_enter Try.func20, Try.ntmps20
    go_wp2_with (first | (go_at_call 24; refine (hu_any _ _ hs).mono ?_; rintro e w' ⟨rfl, rfl⟩) | (go_at_call 33; refine (fe_any _ _ _ z _ _ HR.out HZ.out hlen).mono ?_; rintro e w' ⟨rfl, q, rfl⟩))
    go_ret
    exact ⟨ret_bool (by rw [HE.out, HU.out]; rfl), 0, rfl⟩
  | false =>
    have HU : Hid (huL s = false) := hu
    go_enter Try.func20, Try.ntmps20
    go_wp2_with (first | (go_at_call 24; refine (hu_any _ _ hs).mono ?_; rintro e w' ⟨rfl, rfl⟩) | (go_at_call 33; refine (fe_any _ _ _ z _ _ HR.out HZ.out hlen).mono ?_; rintro e w' ⟨rfl, q, rfl⟩))
    go_ret
    exact ⟨ret_bool (by rw [HE.out, HU.out]; rfl), _, rfl⟩

theorem fbytes_yes (a : Option Addr) (len cap : Nat) (s : ByteArray) (w : World) (hl : len + s.size ≤ 1048576) :
    Calls Try.prog 18 #[.slice a len cap, .string s] w fun e w' => e = .returned (.bool true) ∧ w' = w := by
  go_enter Try.func18, Try.ntmps18
  go_wp2
  go_ret
  exact ⟨rfl, rfl⟩
theorem fbytes_no (a : Option Addr) (len cap : Nat) (s : ByteArray) (w : World) (hl : 1048576 < len + s.size) :
    Calls Try.prog 18 #[.slice a len cap, .string s] w fun e w' => e = .returned (.bool false) ∧ w' = w := by
  by_cases h1 : len ≤ 1048576
  · by_cases h2 : s.size ≤ 1048576
    · go_enter Try.func18, Try.ntmps18
      go_wp2
      go_ret
      exact ⟨rfl, rfl⟩
    · go_enter Try.func18, Try.ntmps18
      go_wp2
      go_ret
      exact ⟨rfl, rfl⟩
  · go_enter Try.func18, Try.ntmps18
    go_wp2
    go_ret
    exact ⟨rfl, rfl⟩

set_option maxHeartbeats 400000 in
/-- THE LAW's WALK: FnEqualLowerASCIIAgreesWithFold. -/
theorem foldLaw (a : Option Addr) (len cap : Nat) (z : Nat → Int) (s : ByteArray) (w : World) (hn : a = none → len = 0 ∧ cap = 0) (hr : ByteRow w a len z) (hz : ∀ k, 0 ≤ z k ∧ z k ≤ 255) :
    Calls Try.prog 6 #[.slice a len cap, .string s] w fun e w' => e = .returned (.bool true) ∧ Below w.heap.size w w' := by
  have HN : Hid (a = none → len = 0 ∧ cap = 0) := hn
  have HR : Hid (ByteRow w a len z) := hr
  have HZ : Hid (∀ k, 0 ≤ z k ∧ z k ≤ 255) := hz
  clear hn hr hz
  by_cases hl : len + s.size ≤ 1048576
  · by_cases h1 : len ≤ 524288
    · by_cases h2 : s.size ≤ 524288
      · go_enter Try.func6, Try.ntmps6
        go_wp2_with (first | (go_at_call 18; refine (fbytes_yes _ _ _ _ _ hl).mono ?_; rintro e w' ⟨rfl, rfl⟩))
        refine (copy_any a len cap z _ HN.out HR.out (by omega)).mono ?_
        rintro e w1 ⟨a1, c1, rfl, r1, hb⟩
        go_wp2_with (first | (go_at_call 19; refine (zzel_any _ _ _ z _ _ r1 HZ.out (by omega)).mono ?_; rintro e w' ⟨rfl, rfl⟩) | (go_at_call 20; refine (lm_any _ _ _ z _ _ r1 HZ.out (by omega) (by omega)).mono ?_; rintro e w' ⟨rfl, q, rfl⟩))
        go_ret
        exact ⟨ret_bool (by simp), below_drewN hb _⟩
      · go_enter Try.func6, Try.ntmps6
        go_wp2_with (first | (go_at_call 18; refine (fbytes_yes _ _ _ _ _ hl).mono ?_; rintro e w' ⟨rfl, rfl⟩))
        go_ret
        exact ⟨rfl, Below.refl _ _⟩
    · go_enter Try.func6, Try.ntmps6
      go_wp2_with (first | (go_at_call 18; refine (fbytes_yes _ _ _ _ _ hl).mono ?_; rintro e w' ⟨rfl, rfl⟩))
      go_ret
      exact ⟨rfl, Below.refl _ _⟩
  · go_enter Try.func6, Try.ntmps6
    go_wp2_with (first | (go_at_call 18; refine (fbytes_no _ _ _ _ _ (by omega)).mono ?_; rintro e w' ⟨rfl, rfl⟩))
    go_ret
    exact ⟨rfl, Below.refl _ _⟩
end Go.Proofs.Qxb6602953a
