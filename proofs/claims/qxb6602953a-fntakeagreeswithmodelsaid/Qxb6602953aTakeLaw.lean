/-
  THE LAW's WALK: FnTakeAgreesWithModel (9).
-/
import Derived.Test.Qxb6602953aTakeCall
namespace Go.Proofs.Qxb6602953a
open Go.ChangeShapes Go.WideShapes Go.ChangeAt Go.RowKit
set_option linter.unusedVariables false

theorem St.cellsT {w : World} {B T : Nat} {want : ByteArray} {next left pos fin field kind need value verdict : Int} {other : Bool} (h : Own w B T (St want next left pos fin field kind need value other verdict)) :
    w.cell? ⟨B, 0, none⟩ = some (.string want) ∧ w.cell? ⟨B, 1, none⟩ = some (.int .i64 next) ∧ w.cell? ⟨B, 2, none⟩ = some (.int .i64 left) ∧ w.cell? ⟨B, 3, none⟩ = some (.int .i64 pos) ∧
    w.cell? ⟨B, 4, none⟩ = some (.int .i64 fin) ∧ w.cell? ⟨B, 5, none⟩ = some (.int .i64 field) ∧ w.cell? ⟨B, 6, none⟩ = some (.int .i64 kind) ∧ w.cell? ⟨B, 7, none⟩ = some (.int .i64 need) ∧
    w.cell? ⟨B, 8, none⟩ = some (.int .i64 value) ∧ w.cell? ⟨B, 9, none⟩ = some (.bool other) ∧ w.cell? ⟨B, 10, none⟩ = some (.int .i64 verdict) :=
  ⟨h.cell 0, h.cell 1, h.cell 2, h.cell 3, h.cell 4, h.cell 5, h.cell 6, h.cell 7, h.cell 8, h.cell 9, h.cell 10⟩

set_option maxHeartbeats 1600000 in
theorem law_num (want : ByteArray) (next left pos fin field need value verdict : Int) (other : Bool) (a : Option Addr) (len cap : Nat) (z : Nat → Int) (w : World)
    (hn : a = none → len = 0 ∧ cap = 0) (hr : ByteRow w a len z) (hz : ∀ k, 0 ≤ z k ∧ z k ≤ 255) (h0 : want.size + len ≤ 1048576) (h1 : want.size ≤ 524288) (h2 : len ≤ 524288)
    (v1 : -9223372036854775808 ≤ value) (v2 : value ≤ 9223372036854775807)  :
    Calls Try.prog 9 #[.agg #[.string want, .int .i64 next, .int .i64 left, .int .i64 pos, .int .i64 fin, .int .i64 field, .int .i64 1, .int .i64 need, .int .i64 value, .bool other, .int .i64 verdict], .slice a len cap] w fun e w' =>
      e = .returned (.bool true) ∧ Below w.heap.size w w' := by
  have HZ : Hid (∀ k, 0 ≤ z k ∧ z k ≤ 255) := hz
  have HR : Hid (ByteRow w a len z) := hr
  have HN : Hid (a = none → len = 0 ∧ cap = 0) := hn
  clear hz hr hn
  go_enter Try.func9, Try.ntmps9
  go_wp2_with fail
  refine (kbytes_any want _ _ _ _ _ _ _ _ _ _ a len cap _ (by unfold maxLen; omega) (by unfold maxLen; omega)).mono ?_
  rintro e w1 ⟨rfl, hb1⟩
  rw [decide_eq_true h0]
  have hb0 : Below w.heap.size w (w.alloc (.cells (St want next left pos fin field 1 need value other verdict).toArray 32)) := (Below.refl _ _).alloc (Nat.le_refl _) _
  have HB1 := below_step hb0 hb1
  have hO1 : Own w1 w.heap.size 32 (St want next left pos fin field 1 need value other verdict) := (Own.new w 32 (St want next left pos fin field 1 need value other verdict)).below hb1 (by simp)
  have R1 : Hid (ByteRow w1 a len z) := HR.out.below HB1
  obtain ⟨c0, c1, c2, c3, c4, c5, c6, c7, c8, c9, c10⟩ := St.cellsT hO1
  clear hb0 hb1 c1 c2 c3 c4 c5 c8 c9 c10
  go_wp2_with fail
  clear c0 c6 c7
  refine (copy_any a len cap z _ HN.out R1.out (by omega)).mono ?_
  rintro e w2 ⟨a2, cap2, rfl, r2, hb2⟩
  have hO2 := hO1.below hb2 hO1.lt
  have HB2 := below_step HB1 hb2
  clear HB1 hb2 hO1
  obtain ⟨c0, c1, c2, c3, c4, c5, c6, c7, c8, c9, c10⟩ := St.cellsT hO2
  go_wp2_with fail
  clear c0 c1 c2 c3 c4 c5 c6 c7 c8 c9 c10
  refine (tcall_any want next left pos fin field 1 need value verdict other a2 len cap2 z _ r2 HZ.out (by omega) (by omega) v1 v2 (fun h => absurd h (by omega))).mono ?_
  rintro e w3 ⟨rfl, hb3⟩
  have hO3 := hO2.below hb3 hO2.lt
  have HB3 := below_step HB2 hb3
  have R3 : Hid (ByteRow w3 a2 len z) := r2.below hb3
  clear HB2 hb3 hO2 r2
  obtain ⟨c0, c1, c2, c3, c4, c5, c6, c7, c8, c9, c10⟩ := St.cellsT hO3
  have hw3 := hO3.lt
  have HO3 : Hid (Own w3 w.heap.size 32 (St want next left pos fin field 1 need value other verdict)) := hO3
  have HB : Hid (Below w.heap.size w w3) := HB3
  clear hO3 HB3
  unfold StT St
  rw [show vT 1 value z len = wrap64 (big value z len) from by unfold vT; rw [if_pos rfl], show oT 1 need other want z len = other from by unfold oT; rw [if_neg (by omega)]]
  go_wp2_with fail
  refine (be_any value a2 len cap2 z _ (R3.out.below ((Below.refl _ _).alloc (Nat.le_refl _) _)) HZ.out (by omega)).mono ?_
  rintro e w4 ⟨rfl, rfl⟩
  go_wp2_with fail
  go_ret
  exact ⟨rfl, (HB.out.alloc (by omega) _).alloc (by simp; omega) _⟩

set_option maxHeartbeats 1600000 in
theorem law_skip (want : ByteArray) (next left pos fin field kind need value verdict : Int) (other : Bool) (a : Option Addr) (len cap : Nat) (z : Nat → Int) (w : World)
    (hn : a = none → len = 0 ∧ cap = 0) (hr : ByteRow w a len z) (hz : ∀ k, 0 ≤ z k ∧ z k ≤ 255) (h0 : want.size + len ≤ 1048576) (h1 : want.size ≤ 524288) (h2 : len ≤ 524288)
    (v1 : -9223372036854775808 ≤ value) (v2 : value ≤ 9223372036854775807) (k1 : (kind == 1) = false) (k2 : (kind == 2) = false) :
    Calls Try.prog 9 #[.agg #[.string want, .int .i64 next, .int .i64 left, .int .i64 pos, .int .i64 fin, .int .i64 field, .int .i64 kind, .int .i64 need, .int .i64 value, .bool other, .int .i64 verdict], .slice a len cap] w fun e w' =>
      e = .returned (.bool true) ∧ Below w.heap.size w w' := by
  have HZ : Hid (∀ k, 0 ≤ z k ∧ z k ≤ 255) := hz
  have HR : Hid (ByteRow w a len z) := hr
  have HN : Hid (a = none → len = 0 ∧ cap = 0) := hn
  clear hz hr hn
  go_enter Try.func9, Try.ntmps9
  go_wp2_with fail
  refine (kbytes_any want _ _ _ _ _ _ _ _ _ _ a len cap _ (by unfold maxLen; omega) (by unfold maxLen; omega)).mono ?_
  rintro e w1 ⟨rfl, hb1⟩
  rw [decide_eq_true h0]
  have hb0 : Below w.heap.size w (w.alloc (.cells (St want next left pos fin field kind need value other verdict).toArray 32)) := (Below.refl _ _).alloc (Nat.le_refl _) _
  have HB1 := below_step hb0 hb1
  have hO1 : Own w1 w.heap.size 32 (St want next left pos fin field kind need value other verdict) := (Own.new w 32 (St want next left pos fin field kind need value other verdict)).below hb1 (by simp)
  have R1 : Hid (ByteRow w1 a len z) := HR.out.below HB1
  obtain ⟨c0, c1, c2, c3, c4, c5, c6, c7, c8, c9, c10⟩ := St.cellsT hO1
  clear hb0 hb1 c1 c2 c3 c4 c5 c8 c9 c10
  go_wp2_with fail
  clear c0 c6 c7
  refine (copy_any a len cap z _ HN.out R1.out (by omega)).mono ?_
  rintro e w2 ⟨a2, cap2, rfl, r2, hb2⟩
  have hO2 := hO1.below hb2 hO1.lt
  have HB2 := below_step HB1 hb2
  clear HB1 hb2 hO1
  obtain ⟨c0, c1, c2, c3, c4, c5, c6, c7, c8, c9, c10⟩ := St.cellsT hO2
  go_wp2_with fail
  clear c0 c1 c2 c3 c4 c5 c6 c7 c8 c9 c10
  refine (tcall_any want next left pos fin field kind need value verdict other a2 len cap2 z _ r2 HZ.out (by omega) (by omega) v1 v2 (fun h => absurd h (by simpa using k2))).mono ?_
  rintro e w3 ⟨rfl, hb3⟩
  have hO3 := hO2.below hb3 hO2.lt
  have HB3 := below_step HB2 hb3
  have R3 : Hid (ByteRow w3 a2 len z) := r2.below hb3
  clear HB2 hb3 hO2 r2
  obtain ⟨c0, c1, c2, c3, c4, c5, c6, c7, c8, c9, c10⟩ := St.cellsT hO3
  have hw3 := hO3.lt
  have HO3 : Hid (Own w3 w.heap.size 32 (St want next left pos fin field kind need value other verdict)) := hO3
  have HB : Hid (Below w.heap.size w w3) := HB3
  clear hO3 HB3
  unfold StT St
  rw [show vT kind value z len = value from by unfold vT; rw [if_neg (by simpa using k1)], show oT kind need other want z len = other from by unfold oT; rw [if_neg (by simpa using k2)]]
  go_wp2_with fail
  go_ret
  exact ⟨rfl, (HB.out.alloc (by omega) _).alloc (by simp; omega) _⟩

set_option maxHeartbeats 1600000 in
theorem law_host (want : ByteArray) (next left pos fin field value verdict : Int) (nd : Nat) (other : Bool) (a : Option Addr) (len cap : Nat) (z : Nat → Int) (w : World)
    (hn : a = none → len = 0 ∧ cap = 0) (hr : ByteRow w a len z) (hz : ∀ k, 0 ≤ z k ∧ z k ≤ 255) (h0 : want.size + len ≤ 1048576) (h1 : want.size ≤ 524288) (h2 : len ≤ 524288)
    (v1 : -9223372036854775808 ≤ value) (v2 : value ≤ 9223372036854775807) (n1 : nd ≤ want.size) (n2 : len ≤ nd) :
    Calls Try.prog 9 #[.agg #[.string want, .int .i64 next, .int .i64 left, .int .i64 pos, .int .i64 fin, .int .i64 field, .int .i64 2, .int .i64 nd, .int .i64 value, .bool other, .int .i64 verdict], .slice a len cap] w fun e w' =>
      e = .returned (.bool true) ∧ Below w.heap.size w w' := by
  have HZ : Hid (∀ k, 0 ≤ z k ∧ z k ≤ 255) := hz
  have HR : Hid (ByteRow w a len z) := hr
  have HN : Hid (a = none → len = 0 ∧ cap = 0) := hn
  clear hz hr hn
  go_enter Try.func9, Try.ntmps9
  go_wp2_with fail
  refine (kbytes_any want _ _ _ _ _ _ _ _ _ _ a len cap _ (by unfold maxLen; omega) (by unfold maxLen; omega)).mono ?_
  rintro e w1 ⟨rfl, hb1⟩
  rw [decide_eq_true h0]
  have hb0 : Below w.heap.size w (w.alloc (.cells (St want next left pos fin field 2 nd value other verdict).toArray 32)) := (Below.refl _ _).alloc (Nat.le_refl _) _
  have HB1 := below_step hb0 hb1
  have hO1 : Own w1 w.heap.size 32 (St want next left pos fin field 2 nd value other verdict) := (Own.new w 32 (St want next left pos fin field 2 nd value other verdict)).below hb1 (by simp)
  have R1 : Hid (ByteRow w1 a len z) := HR.out.below HB1
  obtain ⟨c0, c1, c2, c3, c4, c5, c6, c7, c8, c9, c10⟩ := St.cellsT hO1
  clear hb0 hb1 c1 c2 c3 c4 c5 c8 c9 c10
  go_wp2_with fail
  clear c0 c6 c7
  refine (copy_any a len cap z _ HN.out R1.out (by omega)).mono ?_
  rintro e w2 ⟨a2, cap2, rfl, r2, hb2⟩
  have hO2 := hO1.below hb2 hO1.lt
  have HB2 := below_step HB1 hb2
  clear HB1 hb2 hO1
  obtain ⟨c0, c1, c2, c3, c4, c5, c6, c7, c8, c9, c10⟩ := St.cellsT hO2
  go_wp2_with fail
  clear c0 c1 c2 c3 c4 c5 c6 c7 c8 c9 c10
  refine (tcall_any want next left pos fin field 2 nd value verdict other a2 len cap2 z _ r2 HZ.out (by omega) (by omega) v1 v2 (fun _ => ⟨by omega, by omega, by omega⟩)).mono ?_
  rintro e w3 ⟨rfl, hb3⟩
  have hO3 := hO2.below hb3 hO2.lt
  have HB3 := below_step HB2 hb3
  have R3 : Hid (ByteRow w3 a2 len z) := r2.below hb3
  clear HB2 hb3 hO2 r2
  obtain ⟨c0, c1, c2, c3, c4, c5, c6, c7, c8, c9, c10⟩ := St.cellsT hO3
  have hw3 := hO3.lt
  have HO3 : Hid (Own w3 w.heap.size 32 (St want next left pos fin field 2 nd value other verdict)) := hO3
  have HB : Hid (Below w.heap.size w w3) := HB3
  clear hO3 HB3
  unfold StT St
  have hx : (want.extract (want.size - nd) (want.size - nd + len)).size ≤ 1048576 := by rw [ByteArray.size_extract]; omega
  rw [show vT 2 value z len = value from by unfold vT; rw [if_neg (by omega)], show oT 2 nd other want z len = (other || !eqL z len (want.extract (want.size - nd) (want.size - nd + len))) from by unfold oT; rw [if_pos rfl, Int.toNat_natCast], wrap64_id ((nd : Int) - len) (by omega) (by omega)]
  cases hE : eqL z len (want.extract (want.size - nd) (want.size - nd + len)) with
  | true =>
    have HE : Hid (eqL z len (want.extract (want.size - nd) (want.size - nd + len)) = true) := hE
    rw [Bool.not_true, Bool.or_false]
    clear hE
    go_wp2_with fail
    refine (lm_any a2 len cap2 z _ _ (R3.out.below ((Below.refl _ _).alloc (Nat.le_refl _) _)) HZ.out (by omega) hx).mono ?_
    rintro e w4 ⟨rfl, q, rfl⟩
    rw [HE.out]
    go_wp2_with fail
    go_ret
    exact ⟨rfl, (below_drewN (HB.out.alloc (by omega) _) q).alloc (by simp; omega) _⟩
  | false =>
    have HE : Hid (eqL z len (want.extract (want.size - nd) (want.size - nd + len)) = false) := hE
    rw [Bool.not_false, Bool.or_true]
    clear hE
    go_wp2_with fail
    refine (lm_any a2 len cap2 z _ _ (R3.out.below ((Below.refl _ _).alloc (Nat.le_refl _) _)) HZ.out (by omega) hx).mono ?_
    rintro e w4 ⟨rfl, q, rfl⟩
    rw [HE.out]
    go_wp2_with fail
    go_ret
    exact ⟨rfl, (below_drewN (HB.out.alloc (by omega) _) q).alloc (by simp; omega) _⟩

set_option maxHeartbeats 800000 in
/-- The ways on which the law answers at once. -/
theorem law_out (want : ByteArray) (next left pos fin field kind need value verdict : Int) (other : Bool) (a : Option Addr) (len cap : Nat) (w : World) (hw : want.size ≤ maxLen) (hl : len ≤ maxLen)
    (h : 1048576 < want.size + len ∨ (want.size + len ≤ 1048576 ∧ 524288 < want.size) ∨ (want.size + len ≤ 1048576 ∧ want.size ≤ 524288 ∧ 524288 < len) ∨
      (want.size + len ≤ 1048576 ∧ want.size ≤ 524288 ∧ len ≤ 524288 ∧ (kind == 2) = true ∧ (need < 0 ∨ (0 ≤ need ∧ want.size < need) ∨ (0 ≤ need ∧ need ≤ want.size ∧ need < len)))) :
    Calls Try.prog 9 #[.agg #[.string want, .int .i64 next, .int .i64 left, .int .i64 pos, .int .i64 fin, .int .i64 field, .int .i64 kind, .int .i64 need, .int .i64 value, .bool other, .int .i64 verdict], .slice a len cap] w fun e w' =>
      e = .returned (.bool true) ∧ Below w.heap.size w w' := by
  have HW := hw
  have HL := hl
  unfold maxLen at hw hl
  have hb0 : Below w.heap.size w (w.alloc (.cells (St want next left pos fin field kind need value other verdict).toArray 32)) := (Below.refl _ _).alloc (Nat.le_refl _) _
  rcases h with h | h | h | h
  · go_enter Try.func9, Try.ntmps9
    go_wp2_with fail
    refine (kbytes_any want _ _ _ _ _ _ _ _ _ _ a len cap _ HW HL).mono ?_
    rintro e w1 ⟨rfl, hb1⟩
    rw [decide_eq_false (by omega)]
    have HB1 := below_step hb0 hb1
    clear hb0 hb1
    go_wp2_with fail
    go_ret
    exact ⟨rfl, HB1⟩
  · obtain ⟨q1, q2⟩ := h
    go_enter Try.func9, Try.ntmps9
    go_wp2_with fail
    refine (kbytes_any want _ _ _ _ _ _ _ _ _ _ a len cap _ HW HL).mono ?_
    rintro e w1 ⟨rfl, hb1⟩
    rw [decide_eq_true (by omega)]
    have HB1 := below_step hb0 hb1
    have hO1 : Own w1 w.heap.size 32 (St want next left pos fin field kind need value other verdict) := (Own.new w 32 (St want next left pos fin field kind need value other verdict)).below hb1 (by simp)
    obtain ⟨c0, c1, c2, c3, c4, c5, c6, c7, c8, c9, c10⟩ := St.cellsT hO1
    clear hb0 hb1
    go_wp2_with fail
    go_ret
    exact ⟨rfl, HB1⟩
  · obtain ⟨q1, q2, q3⟩ := h
    go_enter Try.func9, Try.ntmps9
    go_wp2_with fail
    refine (kbytes_any want _ _ _ _ _ _ _ _ _ _ a len cap _ HW HL).mono ?_
    rintro e w1 ⟨rfl, hb1⟩
    rw [decide_eq_true (by omega)]
    have HB1 := below_step hb0 hb1
    have hO1 : Own w1 w.heap.size 32 (St want next left pos fin field kind need value other verdict) := (Own.new w 32 (St want next left pos fin field kind need value other verdict)).below hb1 (by simp)
    obtain ⟨c0, c1, c2, c3, c4, c5, c6, c7, c8, c9, c10⟩ := St.cellsT hO1
    clear hb0 hb1
    go_wp2_with fail
    go_ret
    exact ⟨rfl, HB1⟩
  · obtain ⟨q1, q2, q3, q4, q5⟩ := h
    rcases q5 with q5 | ⟨q5, q6⟩ | ⟨q5, q6, q7⟩
    all_goals
      go_enter Try.func9, Try.ntmps9
      go_wp2_with fail
      refine (kbytes_any want _ _ _ _ _ _ _ _ _ _ a len cap _ HW HL).mono ?_
      rintro e w1 ⟨rfl, hb1⟩
      rw [decide_eq_true (by omega)]
      have HB1 := below_step hb0 hb1
      have hO1 : Own w1 w.heap.size 32 (St want next left pos fin field kind need value other verdict) := (Own.new w 32 (St want next left pos fin field kind need value other verdict)).below hb1 (by simp)
      obtain ⟨c0, c1, c2, c3, c4, c5, c6, c7, c8, c9, c10⟩ := St.cellsT hO1
      clear hb0 hb1
      go_wp2_with fail
      go_ret
      exact ⟨rfl, HB1⟩

/-- THE LAW's WALK, at every state and every slice of bytes. -/
theorem takeLaw (want : ByteArray) (next left pos fin field kind need value verdict : Int) (other : Bool) (a : Option Addr) (len cap : Nat) (z : Nat → Int) (w : World)
    (hn : a = none → len = 0 ∧ cap = 0) (hr : ByteRow w a len z) (hz : ∀ k, 0 ≤ z k ∧ z k ≤ 255) (hw : want.size ≤ maxLen) (hl : len ≤ maxLen)
    (v1 : -9223372036854775808 ≤ value) (v2 : value ≤ 9223372036854775807) :
    Calls Try.prog 9 #[.agg #[.string want, .int .i64 next, .int .i64 left, .int .i64 pos, .int .i64 fin, .int .i64 field, .int .i64 kind, .int .i64 need, .int .i64 value, .bool other, .int .i64 verdict], .slice a len cap] w fun e w' =>
      e = .returned (.bool true) ∧ Below w.heap.size w w' := by
  by_cases h0 : want.size + len ≤ 1048576
  · by_cases h1 : want.size ≤ 524288
    · by_cases h2 : len ≤ 524288
      · by_cases k1 : kind = 1
        · subst k1
          exact law_num want next left pos fin field need value verdict other a len cap z w hn hr hz h0 h1 h2 v1 v2
        · by_cases k2 : kind = 2
          · subst k2
            by_cases hb : 0 ≤ need ∧ need ≤ want.size ∧ len ≤ need
            · obtain ⟨b1, b2, b3⟩ := hb
              obtain ⟨nd, rfl⟩ : ∃ nd : Nat, need = nd := ⟨need.toNat, by omega⟩
              exact law_host want next left pos fin field value verdict nd other a len cap z w hn hr hz h0 h1 h2 v1 v2 (by omega) (by omega)
            · exact law_out want next left pos fin field 2 need value verdict other a len cap w hw hl (.inr (.inr (.inr ⟨h0, h1, h2, rfl, by omega⟩)))
          · exact law_skip want next left pos fin field kind need value verdict other a len cap z w hn hr hz h0 h1 h2 v1 v2 (by simpa using k1) (by simpa using k2)
      · exact law_out want next left pos fin field kind need value verdict other a len cap w hw hl (.inr (.inr (.inl ⟨h0, h1, by omega⟩)))
    · exact law_out want next left pos fin field kind need value verdict other a len cap w hw hl (.inr (.inl ⟨h0, by omega⟩))
  · exact law_out want next left pos fin field kind need value verdict other a len cap w hw hl (.inl (by omega))
end Go.Proofs.Qxb6602953a
