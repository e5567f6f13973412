/-
  takeCall (26), zzBytes (25).
-/
import Derived.Test.Qxb6602953aZzTake
namespace Go.Proofs.Qxb6602953a
open Go.ChangeShapes Go.WideShapes Go.ChangeAt Go.RowKit
set_option linter.unusedVariables false

theorem res26 (tmps : Array Value) (w : World) (cs : List Value) {g : Nat} (hO : Own w g 34 cs) (hl : cs.length = 11) (h : tmps[4]?.getD undef = .pointer (some ⟨g, 0, none⟩)) :
    (results Try.f26 tmps).run Try.prog w = .ok (.agg cs.toArray) w := by
  have hload := run_loadVar_row (P := Try.prog) w g 34 34 cs.toArray (0, 0) _ hO Try.underlying34 rfl (by rw [Try.size34]; simp [hl])
  simp only [results, Try.results26]
  simp [h, hload, asAddr]
theorem sets_below' {W w : World} {B g : Nat} (hg : B ≤ g) (h : Below B W w) (v0 v1 v2 v3 v4 v5 v6 v7 v8 v9 v10 : Value) :
    Below B W (((((((((((w.setCell ⟨g, 0, none⟩ v0).setCell ⟨g, 1, none⟩ v1).setCell ⟨g, 2, none⟩ v2).setCell ⟨g, 3, none⟩ v3).setCell ⟨g, 4, none⟩ v4).setCell ⟨g, 5, none⟩ v5).setCell ⟨g, 6, none⟩ v6).setCell ⟨g, 7, none⟩ v7).setCell ⟨g, 8, none⟩ v8).setCell ⟨g, 9, none⟩ v9).setCell ⟨g, 10, none⟩ v10) :=
  ((((((((((h.setCell hg _).setCell hg _).setCell hg _).setCell hg _).setCell hg _).setCell hg _).setCell hg _).setCell hg _).setCell hg _).setCell hg _).setCell hg _

/-- The state behind a take. -/
def StT (want : ByteArray) (next left pos fin field kind need value : Int) (other : Bool) (verdict : Int) (z : Nat → Int) (len : Nat) : List Value :=
  St want (wrap64 (next + len)) (wrap64 (left - len)) (wrap64 (pos + len)) fin field kind (wrap64 (need - len)) (vT kind value z len) (oT kind need other want z len) verdict

set_option maxHeartbeats 800000 in
theorem tcall_any (want : ByteArray) (next left pos fin field kind need value verdict : Int) (other : Bool) (a : Option Addr) (len cap : Nat) (z : Nat → Int) (w : World)
    (hr : ByteRow w a len z) (hz : ∀ k, 0 ≤ z k ∧ z k ≤ 255) (hlen : len ≤ 1048576) (hw : want.size ≤ 1048576)
    (v1 : -9223372036854775808 ≤ value) (v2 : value ≤ 9223372036854775807) (hk : kind = 2 → 0 ≤ need ∧ need ≤ want.size ∧ len ≤ need) :
    Calls Try.prog 26 #[.agg #[.string want, .int .i64 next, .int .i64 left, .int .i64 pos, .int .i64 fin, .int .i64 field, .int .i64 kind, .int .i64 need, .int .i64 value, .bool other, .int .i64 verdict], .slice a len cap] w fun e w' =>
      e = .returned (.agg (StT want next left pos fin field kind need value other verdict z len).toArray) ∧ Below w.heap.size w w' := by
  have HZ : Hid (∀ k, 0 ≤ z k ∧ z k ≤ 255) := hz
  have HR : Hid (ByteRow w a len z) := hr
  have HK : Hid (kind = 2 → 0 ≤ need ∧ need ≤ want.size ∧ len ≤ need) := hk
  clear hz hr hk
  go_enter Try.func26, Try.ntmps26
  go_wp2_with fail
  have hO0 : Own ((w.alloc (.cells (St want next left pos fin field kind need value other verdict).toArray 32)).alloc (.cells (St ⟨#[]⟩ 0 0 0 0 0 0 0 0 false 0).toArray 34)) (w.heap.size + 1) 34 (St ⟨#[]⟩ 0 0 0 0 0 0 0 0 false 0) := by
    have h := Own.new (w.alloc (.cells (St want next left pos fin field kind need value other verdict).toArray 32)) 34 (St ⟨#[]⟩ 0 0 0 0 0 0 0 0 false 0)
    simpa using h
  have hb0 : Below w.heap.size w ((w.alloc (.cells (St want next left pos fin field kind need value other verdict).toArray 32)).alloc (.cells (St ⟨#[]⟩ 0 0 0 0 0 0 0 0 false 0).toArray 34)) := ((Below.refl _ _).alloc (Nat.le_refl _) _).alloc (by simp) _
  refine (zztake_any want next left pos fin field kind need value verdict other a len cap z _ (HR.out.below hb0) HZ.out hlen hw v1 v2 HK.out).mono ?_
  rintro e w1 ⟨rfl, hb1⟩
  have HB : Hid (Below w.heap.size w w1) := below_step hb0 hb1
  have hO2 := hO0.below hb1 hO0.lt
  have HO2 : Hid (Own w1 (w.heap.size + 1) 34 (St ⟨#[]⟩ 0 0 0 0 0 0 0 0 false 0)) := hO2
  have d0 : w1.cell? ⟨w.heap.size + 1, 0, none⟩ = some (.string ⟨#[]⟩) := hO2.cell 0
  have d1 : w1.cell? ⟨w.heap.size + 1, 1, none⟩ = some (.int .i64 0) := hO2.cell 1
  have d2 : w1.cell? ⟨w.heap.size + 1, 2, none⟩ = some (.int .i64 0) := hO2.cell 2
  have d3 : w1.cell? ⟨w.heap.size + 1, 3, none⟩ = some (.int .i64 0) := hO2.cell 3
  have d4 : w1.cell? ⟨w.heap.size + 1, 4, none⟩ = some (.int .i64 0) := hO2.cell 4
  have d5 : w1.cell? ⟨w.heap.size + 1, 5, none⟩ = some (.int .i64 0) := hO2.cell 5
  have d6 : w1.cell? ⟨w.heap.size + 1, 6, none⟩ = some (.int .i64 0) := hO2.cell 6
  have d7 : w1.cell? ⟨w.heap.size + 1, 7, none⟩ = some (.int .i64 0) := hO2.cell 7
  have d8 : w1.cell? ⟨w.heap.size + 1, 8, none⟩ = some (.int .i64 0) := hO2.cell 8
  have d9 : w1.cell? ⟨w.heap.size + 1, 9, none⟩ = some (.bool false) := hO2.cell 9
  have d10 : w1.cell? ⟨w.heap.size + 1, 10, none⟩ = some (.int .i64 0) := hO2.cell 10
  have e0 := hO2.free 0
  have e1 := hO2.free 1
  have e2 := hO2.free 2
  have e3 := hO2.free 3
  have e4 := hO2.free 4
  have e5 := hO2.free 5
  have e6 := hO2.free 6
  have e7 := hO2.free 7
  have e8 := hO2.free 8
  have e9 := hO2.free 9
  have e10 := hO2.free 10
  clear hO0 hO2 hb0 hb1
  unfold St
  go_wp2_with fail
  refine bodyPost_ret (res26 _ _ _ ((((((((((((HO2.out.set 0 _).set 1 _).set 2 _).set 3 _).set 4 _).set 5 _).set 6 _).set 7 _).set 8 _).set 9 _).set 10 _)) rfl rfl) rfl ⟨rfl, ?_⟩
  exact sets_below' (by omega) HB.out _ _ _ _ _ _ _ _ _ _ _

theorem kbytes_any (want : ByteArray) (x1 x2 x3 x4 x5 x6 x7 x8 x9 x10 : Value) (a : Option Addr) (len cap : Nat) (w : World) (hw : want.size ≤ maxLen) (hl : len ≤ maxLen) :
    Calls Try.prog 25 #[.agg #[.string want, x1, x2, x3, x4, x5, x6, x7, x8, x9, x10], .slice a len cap] w fun e w' => e = .returned (.bool (decide (want.size + len ≤ 1048576))) ∧ Below w.heap.size w w' := by
  unfold maxLen at hw hl
  go_enter Try.func25, Try.ntmps25
  go_wp2
  all_goals go_ret
  all_goals refine ⟨ret_bool ?_, (Below.refl _ _).alloc (Nat.le_refl _) _⟩
  all_goals first | (symm; exact decide_eq_false (by omega)) | (symm; exact decide_eq_true (by omega))
end Go.Proofs.Qxb6602953a
