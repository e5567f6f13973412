/-
  ZZTake (34), takeCall (26).
-/
import Derived.Test.Qxb6602953aTake
namespace Go.Proofs.Qxb6602953a
open Go.ChangeShapes Go.WideShapes Go.ChangeAt Go.RowKit
set_option linter.unusedVariables false

theorem Try.size34 : (Try.prog.info? 34).map (·.size) = some 11 := by kernel_rfl
theorem res34 (tmps : Array Value) (w : World) (cs : List Value) {g : Nat} (hO : Own w g 34 cs) (hl : cs.length = 11) (h : tmps[24]?.getD undef = .pointer (some ⟨g, 0, none⟩)) :
    (results Try.f34 tmps).run Try.prog w = .ok (.agg cs.toArray) w := by
  have hload := run_loadVar_row (P := Try.prog) w g 34 34 cs.toArray (0, 0) _ hO Try.underlying34 rfl (by rw [Try.size34]; simp [hl])
  simp only [results, Try.results34]
  simp [h, hload, asAddr]
theorem sets_below {W w : World} {B : Nat} (h : Below B W w) (v0 v1 v2 v3 v4 v5 v6 v7 v8 v9 v10 : Value) :
    Below B W (((((((((((w.setCell ⟨B, 0, none⟩ v0).setCell ⟨B, 1, none⟩ v1).setCell ⟨B, 2, none⟩ v2).setCell ⟨B, 3, none⟩ v3).setCell ⟨B, 4, none⟩ v4).setCell ⟨B, 5, none⟩ v5).setCell ⟨B, 6, none⟩ v6).setCell ⟨B, 7, none⟩ v7).setCell ⟨B, 8, none⟩ v8).setCell ⟨B, 9, none⟩ v9).setCell ⟨B, 10, none⟩ v10) :=
  ((((((((((h.setCell (Nat.le_refl _) _).setCell (Nat.le_refl _) _).setCell (Nat.le_refl _) _).setCell (Nat.le_refl _) _).setCell (Nat.le_refl _) _).setCell (Nat.le_refl _) _).setCell (Nat.le_refl _) _).setCell (Nat.le_refl _) _).setCell (Nat.le_refl _) _).setCell (Nat.le_refl _) _).setCell (Nat.le_refl _) _

set_option maxHeartbeats 800000 in
theorem zztake_any (want : ByteArray) (next left pos fin field kind need value verdict : Int) (other : Bool) (a : Option Addr) (len cap : Nat) (z : Nat → Int) (w : World)
    (hr : ByteRow w a len z) (hz : ∀ k, 0 ≤ z k ∧ z k ≤ 255) (hlen : len ≤ 1048576) (hw : want.size ≤ 1048576)
    (v1 : -9223372036854775808 ≤ value) (v2 : value ≤ 9223372036854775807) (hk : kind = 2 → 0 ≤ need ∧ need ≤ want.size ∧ len ≤ need) :
    Calls Try.prog 34 #[.string want, .int .i64 next, .int .i64 left, .int .i64 pos, .int .i64 fin, .int .i64 field, .int .i64 kind, .int .i64 need, .int .i64 value, .bool other, .int .i64 verdict, .slice a len cap] w fun e w' =>
      e = .returned (.agg (St want (wrap64 (next + len)) (wrap64 (left - len)) (wrap64 (pos + len)) fin field kind (wrap64 (need - len)) (vT kind value z len) (oT kind need other want z len) verdict).toArray) ∧ Below w.heap.size w w' := by
  have HZ : Hid (∀ k, 0 ≤ z k ∧ z k ≤ 255) := hz
  have HR : Hid (ByteRow w a len z) := hr
  have HK : Hid (kind = 2 → 0 ≤ need ∧ need ≤ want.size ∧ len ≤ need) := hk
  clear hz hr hk
  go_enter Try.func34, Try.ntmps34
  go_wp2_with fail
  have hO : Own ((w.alloc (.cells (St ⟨#[]⟩ 0 0 0 0 0 0 0 0 false 0).toArray 34)).alloc (.cells (St want next left pos fin field kind need value other verdict).toArray 46)) (w.heap.size + 1) 46 (St want next left pos fin field kind need value other verdict) := by
    have h := Own.new (w.alloc (.cells (St ⟨#[]⟩ 0 0 0 0 0 0 0 0 false 0).toArray 34)) 46 (St want next left pos fin field kind need value other verdict)
    simpa using h
  have hO0 : Own ((w.alloc (.cells (St ⟨#[]⟩ 0 0 0 0 0 0 0 0 false 0).toArray 34)).alloc (.cells (St want next left pos fin field kind need value other verdict).toArray 46)) w.heap.size 34 (St ⟨#[]⟩ 0 0 0 0 0 0 0 0 false 0) :=
    (Own.new w 34 (St ⟨#[]⟩ 0 0 0 0 0 0 0 0 false 0)).alloc _
  have hb0 : Below w.heap.size w ((w.alloc (.cells (St ⟨#[]⟩ 0 0 0 0 0 0 0 0 false 0).toArray 34)).alloc (.cells (St want next left pos fin field kind need value other verdict).toArray 46)) := ((Below.refl _ _).alloc (Nat.le_refl _) _).alloc (by simp) _
  refine (take_any want next left pos fin field kind need value verdict other (w.heap.size + 1) a len cap z w _ hO HR.out hb0 (by omega) HZ.out hlen hw v1 v2 HK.out).mono ?_
  rintro e w1 ⟨rfl, hO1, hb1⟩
  have HB : Hid (Below w.heap.size w w1) := hb0.trans (hb1.mono (by omega))
  have hO2 := hO0.below hb1 (by omega)
  obtain ⟨c0, c1, c2, c3, c4, c5, c6, c7, c8, c9, c10⟩ := St.cells hO1
  have HO2 : Hid (Own w1 w.heap.size 34 (St ⟨#[]⟩ 0 0 0 0 0 0 0 0 false 0)) := hO2
  have d0 : w1.cell? ⟨w.heap.size, 0, none⟩ = some (.string ⟨#[]⟩) := hO2.cell 0
  have d1 : w1.cell? ⟨w.heap.size, 1, none⟩ = some (.int .i64 0) := hO2.cell 1
  have d2 : w1.cell? ⟨w.heap.size, 2, none⟩ = some (.int .i64 0) := hO2.cell 2
  have d3 : w1.cell? ⟨w.heap.size, 3, none⟩ = some (.int .i64 0) := hO2.cell 3
  have d4 : w1.cell? ⟨w.heap.size, 4, none⟩ = some (.int .i64 0) := hO2.cell 4
  have d5 : w1.cell? ⟨w.heap.size, 5, none⟩ = some (.int .i64 0) := hO2.cell 5
  have d6 : w1.cell? ⟨w.heap.size, 6, none⟩ = some (.int .i64 0) := hO2.cell 6
  have d7 : w1.cell? ⟨w.heap.size, 7, none⟩ = some (.int .i64 0) := hO2.cell 7
  have d8 : w1.cell? ⟨w.heap.size, 8, none⟩ = some (.int .i64 0) := hO2.cell 8
  have d9 : w1.cell? ⟨w.heap.size, 9, none⟩ = some (.bool false) := hO2.cell 9
  have d10 : w1.cell? ⟨w.heap.size, 10, none⟩ = some (.int .i64 0) := hO2.cell 10
  have e0 := hO2.free 0
  have e1 := hO2.free 1
  have e2 := hO2.free 2
  have e3 := hO2.free 3
  have e4 := hO2.free 4
  have e5 := hO2.free 5
  have e6 := hO2.free 6
  have e7 := hO2.free 7
  have e8 := hO2.free 8
  have e9 := hO2.free 9
  have e10 := hO2.free 10
  clear hO hO0 hO1 hO2 hb0 hb1
  go_wp2_with fail
  refine bodyPost_ret (res34 _ _ _ ((((((((((((HO2.out.set 0 _).set 1 _).set 2 _).set 3 _).set 4 _).set 5 _).set 6 _).set 7 _).set 8 _).set 9 _).set 10 _)) rfl rfl) rfl ⟨rfl, ?_⟩
  exact sets_below HB.out _ _ _ _ _ _ _ _ _ _ _
end Go.Proofs.Qxb6602953a
