/-
  bigEndianAfter (27), (*helloScan).take (36).
-/
import Derived.Test.Qxb6602953aFold
import Derived.Test.Qxb6602953aBig
namespace Go.Proofs.Qxb6602953a
open Go.ChangeShapes Go.WideShapes Go.ChangeAt Go.RowKit
set_option linter.unusedVariables false

set_option maxHeartbeats 800000 in
theorem be_any (v : Int) (a : Option Addr) (len cap : Nat) (z : Nat → Int) (w : World) (hr : ByteRow w a len z) (hz : ∀ k, 0 ≤ z k ∧ z k ≤ 255) (hlen : len ≤ 1048576) :
    Calls Try.prog 27 #[.int .i64 v, .slice a len cap] w fun e w' => e = .returned (.int .i64 (wrap64 (big v z len))) ∧ w' = w := by
  have HZ : Hid (∀ k, 0 ≤ z k ∧ z k ≤ 255) := hz
  have HR : Hid (ByteRow w a len z) := hr
  clear hz hr
  go_enter Try.func27, Try.ntmps27
  go_wp2
  go_loop [5, 6, 7] (fun n m i => ∃ (k d : Nat), Hid (k + d = len) ∧ i = .int .i64 ((k : Int) - 1) ∧ n = .int .i64 (wrap64 (tl z len d)) ∧ m = .int .i64 (wrap64 (256 ^ d))) (fun _ _ i => (intOf i + 1).toNat)
  case atStart => exact ⟨len, 0, rfl, rfl, by rw [show tl z len 0 = 0 from rfl, wrap64_id 0 (by omega) (by omega)], by rw [show (256 : Int) ^ 0 = 1 from rfl, wrap64_id 1 (by omega) (by omega)]⟩
  case round =>
    obtain ⟨k', d, HD, rfl, rfl, rfl⟩ := hrel
    have hkl : k' ≤ len := by have := HD.out; omega
    by_cases h0 : k' = 0
    · subst h0
      have HE : Hid (wrap64 (wrap64 (v * wrap64 (256 ^ d)) + wrap64 (tl z len d)) = wrap64 (big v z len)) := by
        have e : d = len := by have := HD.out; omega
        subst e
        unfold Hid
        rw [wrap64_mul, wrap64_add, big_all]
      go_wp2
      go_ret
      exact ⟨ret_int HE.out, rfl⟩
    · obtain ⟨k, rfl⟩ : ∃ k, k' = k + 1 := ⟨k' - 1, by omega⟩
      have ek : (((k + 1 : Nat) : Int) - 1) = (k : Int) := by omega
      rw [ek]
      clear ek
      rcases HR.out with h | ⟨b, off, rfl, hc⟩
      · omega
      have ck := hc k (by omega)
      obtain ⟨z1, z2⟩ := HZ.out k
      clear hc
      have HE : Hid (wrap64 (wrap64 (tl z len d) + wrap64 (z k * wrap64 (256 ^ d))) = wrap64 (tl z len (d + 1))) := by
        exact tl_step z len d k (by have := HD.out; omega)
      have HM : Hid (wrap64 (wrap64 (256 ^ d) * 256) = wrap64 (256 ^ (d + 1))) := by
        exact pow_step d
      go_wp2
      go_round
      case rel => exact ⟨k, d + 1, by have := HD.out; unfold Hid; omega, rfl, by rw [HE.out], by rw [HM.out]⟩
      case measure => simp [intOf]

/-- The scan's state in memory. -/
def St (want : ByteArray) (next left pos fin field kind need value : Int) (other : Bool) (verdict : Int) : List Value :=
  [.string want, .int .i64 next, .int .i64 left, .int .i64 pos, .int .i64 fin, .int .i64 field, .int .i64 kind, .int .i64 need, .int .i64 value, .bool other, .int .i64 verdict]

/-- The four counts that every take moves. -/
theorem St.moved {w : World} {B : Nat} {want : ByteArray} {next left pos fin field kind need value verdict n' l' p' d' : Int} {other : Bool} (h : Own w B 46 (St want next left pos fin field kind need value other verdict)) :
    Own ((((w.setCell ⟨B, 1, none⟩ (.int .i64 n')).setCell ⟨B, 2, none⟩ (.int .i64 l')).setCell ⟨B, 3, none⟩ (.int .i64 p')).setCell ⟨B, 7, none⟩ (.int .i64 d')) B 46 (St want n' l' p' fin field kind d' value other verdict) :=
  (((h.set 1 _).set 2 _).set 3 _).set 7 _
theorem moved_below {w wr : World} {B : Nat} (h : Below B w wr) (v1 v2 v3 v7 : Value) :
    Below B w ((((wr.setCell ⟨B, 1, none⟩ v1).setCell ⟨B, 2, none⟩ v2).setCell ⟨B, 3, none⟩ v3).setCell ⟨B, 7, none⟩ v7) :=
  (((h.setCell (Nat.le_refl _) _).setCell (Nat.le_refl _) _).setCell (Nat.le_refl _) _).setCell (Nat.le_refl _) _
theorem moved9_below (w : World) (B nq : Nat) (v9 v1 v2 v3 v7 : Value) :
    Below B w ((((((w.drewN nq).setCell ⟨B, 9, none⟩ v9).setCell ⟨B, 1, none⟩ v1).setCell ⟨B, 2, none⟩ v2).setCell ⟨B, 3, none⟩ v3).setCell ⟨B, 7, none⟩ v7) :=
  moved_below (Below.setCell (p := ⟨B, 9, none⟩) (below_drewN (Below.refl B w) nq) (Nat.le_refl B) v9) v1 v2 v3 v7
/-- The cells and marks that the walk reads. -/
theorem St.cells {w : World} {B : Nat} {want : ByteArray} {next left pos fin field kind need value verdict : Int} {other : Bool} (h : Own w B 46 (St want next left pos fin field kind need value other verdict)) :
    w.cell? ⟨B, 0, none⟩ = some (.string want) ∧ w.cell? ⟨B, 1, none⟩ = some (.int .i64 next) ∧ w.cell? ⟨B, 2, none⟩ = some (.int .i64 left) ∧ w.cell? ⟨B, 3, none⟩ = some (.int .i64 pos) ∧
    w.cell? ⟨B, 4, none⟩ = some (.int .i64 fin) ∧ w.cell? ⟨B, 5, none⟩ = some (.int .i64 field) ∧ w.cell? ⟨B, 6, none⟩ = some (.int .i64 kind) ∧ w.cell? ⟨B, 7, none⟩ = some (.int .i64 need) ∧
    w.cell? ⟨B, 8, none⟩ = some (.int .i64 value) ∧ w.cell? ⟨B, 9, none⟩ = some (.bool other) ∧ w.cell? ⟨B, 10, none⟩ = some (.int .i64 verdict) :=
  ⟨h.cell 0, h.cell 1, h.cell 2, h.cell 3, h.cell 4, h.cell 5, h.cell 6, h.cell 7, h.cell 8, h.cell 9, h.cell 10⟩

set_option maxHeartbeats 800000 in
theorem take_num (want : ByteArray) (next left pos fin field need value verdict : Int) (other : Bool) (B : Nat) (a : Option Addr) (len cap : Nat) (z : Nat → Int) (w0 w : World)
    (hO : Own w B 46 (St want next left pos fin field 1 need value other verdict))
    (hr : ByteRow w0 a len z) (hb : Below w0.heap.size w0 w) (hB : w0.heap.size ≤ B) (hz : ∀ k, 0 ≤ z k ∧ z k ≤ 255) (hlen : len ≤ 1048576) (v1 : -9223372036854775808 ≤ value) (v2 : value ≤ 9223372036854775807) :
    Calls Try.prog 36 #[.pointer (some ⟨B, 0, none⟩), .slice a len cap] w fun e w' => e = .returned (.tuple #[]) ∧
      Own w' B 46 (St want (wrap64 (next + len)) (wrap64 (left - len)) (wrap64 (pos + len)) fin field 1 (wrap64 (need - len)) (wrap64 (big value z len)) other verdict) ∧ Below B w w' := by
  obtain ⟨_, _, _, _, _, _, c6, _, _, _, _⟩ := St.cells hO
  have HZ : Hid (∀ k, 0 ≤ z k ∧ z k ≤ 255) := hz
  have HR : Hid (ByteRow w0 a len z) := hr
  have HB : Hid (Below w0.heap.size w0 w) := hb
  clear hz hr hb
  go_enter Try.func36, Try.ntmps36
  go_wp2
  go_loopw [15] (fun i wr => ∃ k : Nat, k ≤ len ∧ i = .int .i64 k ∧ Own wr B 46 (St want next left pos fin field 1 need (wrap64 (big value z k)) other verdict) ∧ Below B w wr) (fun i _ => len - (intOf i).toNat)
  case atStart => exact ⟨0, Nat.zero_le _, rfl, by rw [show big value z 0 = value from rfl, wrap64_id value v1 v2]; exact hO, Below.refl _ _⟩
  case round =>
    clear hO c6
    obtain ⟨k, hk, rfl, hO1, hb1⟩ := hrel
    by_cases hlt : k < len
    · rcases HR.out with h | ⟨b, off, rfl, hc⟩
      · omega
      have lb : b < w0.heap.size := lt_of_cell (hc k hlt)
      have ck : wr.cell? ⟨b, off + k, none⟩ = some (.int .u8 (z k)) :=
        ((hb1.cell (p := ⟨b, off + k, none⟩) (show b < B by omega)).trans (HB.out.cell (p := ⟨b, off + k, none⟩) lb)).trans (hc k hlt)
      obtain ⟨_, _, _, _, _, _, _, _, c8, _, _⟩ := St.cells hO1
      have f8 := hO1.free 8
      obtain ⟨z1, z2⟩ := HZ.out k
      have HE : Hid (bits .or .i64 (wrap64 (wrap64 (big value z k) * 256)) (z k) = wrap64 (big value z (k + 1))) := by
        exact big_step value z k z1 z2
      clear hc
      go_wp2
      go_roundw
      case rel => exact ⟨k + 1, by omega, by go_num, by rw [HE.out]; exact hO1.set 8 _, hb1.setCell (Nat.le_refl _) _⟩
      case measure => simp [intOf]; omega
    · obtain rfl : k = len := by omega
      obtain ⟨_, c1, c2, c3, _, _, _, c7, _, _, _⟩ := St.cells hO1
      have f1 := hO1.free 1
      have f2 := hO1.free 2
      have f3 := hO1.free 3
      have f7 := hO1.free 7
      go_wp2
      go_end0
      exact ⟨rfl, St.moved hO1, moved_below hb1 _ _ _ _⟩

set_option maxHeartbeats 800000 in
theorem take_skip (want : ByteArray) (next left pos fin field kind need value verdict : Int) (other : Bool) (B : Nat) (a : Option Addr) (len cap : Nat) (w : World)
    (hO : Own w B 46 (St want next left pos fin field kind need value other verdict)) (hlen : len ≤ 1048576) (k1 : (kind == 1) = false) (k2 : (kind == 2) = false) :
    Calls Try.prog 36 #[.pointer (some ⟨B, 0, none⟩), .slice a len cap] w fun e w' => e = .returned (.tuple #[]) ∧
      Own w' B 46 (St want (wrap64 (next + len)) (wrap64 (left - len)) (wrap64 (pos + len)) fin field kind (wrap64 (need - len)) value other verdict) ∧ Below B w w' := by
  obtain ⟨_, c1, c2, c3, _, _, c6, c7, _, _, _⟩ := St.cells hO
  have f1 := hO.free 1
  have f2 := hO.free 2
  have f3 := hO.free 3
  have f7 := hO.free 7
  go_enter Try.func36, Try.ntmps36
  go_wp2
  go_end0
  exact ⟨rfl, St.moved hO, moved_below (Below.refl _ _) _ _ _ _⟩

set_option maxHeartbeats 800000 in
theorem take_host (want : ByteArray) (next left pos fin field value verdict : Int) (nd : Nat) (other : Bool) (B : Nat) (a : Option Addr) (len cap : Nat) (z : Nat → Int) (w0 w : World)
    (hO : Own w B 46 (St want next left pos fin field 2 nd value other verdict))
    (hr : ByteRow w0 a len z) (hb : Below w0.heap.size w0 w) (hB : w0.heap.size ≤ B) (hz : ∀ k, 0 ≤ z k ∧ z k ≤ 255) (hlen : len ≤ nd) (hnd : nd ≤ want.size) (hw : want.size ≤ 1048576) :
    Calls Try.prog 36 #[.pointer (some ⟨B, 0, none⟩), .slice a len cap] w fun e w' => e = .returned (.tuple #[]) ∧
      Own w' B 46 (St want (wrap64 (next + len)) (wrap64 (left - len)) (wrap64 (pos + len)) fin field 2 (wrap64 (nd - len)) value (other || !eqL z len (want.extract (want.size - nd) (want.size - nd + len))) verdict) ∧ Below B w w' := by
  obtain ⟨c0, c1, c2, c3, _, _, c6, c7, _, c9, _⟩ := St.cells hO
  have f1 := hO.free 1
  have f2 := hO.free 2
  have f3 := hO.free 3
  have f7 := hO.free 7
  have f9 := hO.free 9
  have HZ : Hid (∀ k, 0 ≤ z k ∧ z k ≤ 255) := hz
  have HR : Hid (ByteRow w a len z) := hr.below hb
  have HO : Hid (Own w B 46 (St want next left pos fin field 2 nd value other verdict)) := hO
  clear hz hr hb hO
  have HE : Hid (wrap64 ((nd : Int) - len) = (nd : Int) - len) := wrap64_id _ (by omega) (by omega)
  cases other with
  | true =>
    go_enter Try.func36, Try.ntmps36
    go_wp2
    go_quiet (fail)
    go_wp2
    go_end0
    rw [HE.out]
    exact ⟨rfl, St.moved ((HO.out.drewN nq).set 9 _), moved9_below _ _ _ _ _ _ _ _⟩
  | false =>
    go_enter Try.func36, Try.ntmps36
    go_wp2
    go_quiet (fail)
    go_wp2_with fail
    refine (el_any a len cap z _ _ (HR.out.below (below_drewN (Below.refl _ _) nq)) HZ.out (by omega)).mono ?_
    rintro e w' ⟨rfl, rfl⟩
    go_wp2_with fail
    go_end0
    rw [HE.out]
    exact ⟨rfl, St.moved ((HO.out.drewN nq).set 9 _), moved9_below _ _ _ _ _ _ _ _⟩

/-- What a take does to the value and to 'other'. -/
def vT (kind value : Int) (z : Nat → Int) (len : Nat) : Int := if kind = 1 then wrap64 (big value z len) else value
def oT (kind need : Int) (other : Bool) (want : ByteArray) (z : Nat → Int) (len : Nat) : Bool :=
  if kind = 2 then other || !eqL z len (want.extract (want.size - need.toNat) (want.size - need.toNat + len)) else other

/-- take, whatever the kind. -/
theorem take_any (want : ByteArray) (next left pos fin field kind need value verdict : Int) (other : Bool) (B : Nat) (a : Option Addr) (len cap : Nat) (z : Nat → Int) (w0 w : World)
    (hO : Own w B 46 (St want next left pos fin field kind need value other verdict))
    (hr : ByteRow w0 a len z) (hb : Below w0.heap.size w0 w) (hB : w0.heap.size ≤ B) (hz : ∀ k, 0 ≤ z k ∧ z k ≤ 255) (hlen : len ≤ 1048576) (hw : want.size ≤ 1048576)
    (v1 : -9223372036854775808 ≤ value) (v2 : value ≤ 9223372036854775807) (hk : kind = 2 → 0 ≤ need ∧ need ≤ want.size ∧ len ≤ need) :
    Calls Try.prog 36 #[.pointer (some ⟨B, 0, none⟩), .slice a len cap] w fun e w' => e = .returned (.tuple #[]) ∧
      Own w' B 46 (St want (wrap64 (next + len)) (wrap64 (left - len)) (wrap64 (pos + len)) fin field kind (wrap64 (need - len)) (vT kind value z len) (oT kind need other want z len) verdict) ∧ Below B w w' := by
  unfold vT oT
  by_cases k1 : kind = 1
  · subst k1
    rw [if_pos rfl, if_neg (by omega)]
    exact take_num want next left pos fin field need value verdict other B a len cap z w0 w hO hr hb hB hz hlen v1 v2
  · rw [if_neg k1]
    by_cases k2 : kind = 2
    · subst k2
      obtain ⟨h1, h2, h3⟩ := hk rfl
      obtain ⟨nd, rfl⟩ : ∃ nd : Nat, need = nd := ⟨need.toNat, by omega⟩
      rw [if_pos rfl, Int.toNat_natCast]
      exact take_host want next left pos fin field value verdict nd other B a len cap z w0 w hO hr hb hB hz (by omega) (by omega) hw
    · rw [if_neg k2]
      exact take_skip want next left pos fin field kind need value verdict other B a len cap w hO hlen (by simpa using k1) (by simpa using k2)
end Go.Proofs.Qxb6602953a
