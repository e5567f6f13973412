/-
  THE PROOF OF 'Rows.FnTakeAgreesWithModelSaid': the frame after the guide's own way ('Below.trod'), turned to a struct of eleven one-cell fields by value and a slice of bytes; the walk out of Qxb6602953aTakeLaw.
-/
import Derived.Test.Qxb6602953aRows
import Derived.Test.Qxb6602953aTakeLaw
import Derived.WalkKit
import Derived.ProofKit
import Derived.OpenShut
import Derived.ShutString
import Derived.ChangeOld
import Derived.Below
namespace Go.Proofs.Qxb6602953a.fnTakeAgreesWithModel
open Go.ChangeShapes Go.WideShapes Go.ChangeAt Go.RowKit
open Go.ChangeMaps (open_string shut_string)
set_option linter.unusedVariables false

theorem own : ownKnob Try.prog.godebug = none := by kernel_rfl
theorem laidOut : laidOutB Try.prog = true := by kernel_rfl
theorem cells32 : Try.prog.cellsOf 32 = 11 := by kernel_rfl
theorem cells9 : Try.prog.cellsOf 9 = 1 := by kernel_rfl
theorem cells3 : Try.prog.cellsOf 3 = 1 := by kernel_rfl
theorem cells4 : Try.prog.cellsOf 4 = 1 := by kernel_rfl

theorem list11 {l : List Value} (h : l.length = 11) : ∃ c0 c1 c2 c3 c4 c5 c6 c7 c8 c9 c10, l = [c0, c1, c2, c3, c4, c5, c6, c7, c8, c9, c10] := by
  match l, h with
  | [c0, c1, c2, c3, c4, c5, c6, c7, c8, c9, c10], _ => exact ⟨c0, c1, c2, c3, c4, c5, c6, c7, c8, c9, c10, rfl⟩

/-- The struct that came in, opened. -/
theorem open32 {W : World} {H : Type} {enc : TypeId × Value → H} {v : Value} {d : DataW H} {p : List MemPlace} {sp : Nat → Bool} {held : Bool} {base b0 : Nat} {r : Reach}
    (hv : Value.okWide Try.prog W r b0 32 v) (h : DataW.Trod enc Try.prog W base sp held 32 v d p) :
    ∃ (want : ByteArray) (next left pos fin field kind need value verdict : Int) (other : Bool),
      v = .agg #[.string want, .int .i64 next, .int .i64 left, .int .i64 pos, .int .i64 fin, .int .i64 field, .int .i64 kind, .int .i64 need, .int .i64 value, .bool other, .int .i64 verdict] ∧
      want.size ≤ maxLen ∧ (Lit.int .i64 value).wf = true := by
  obtain ⟨cs, rfl, hsz⟩ := okWide_struct Try.underlying32 hv
  rw [cells32] at hsz
  obtain ⟨c0, c1, c2, c3, c4, c5, c6, c7, c8, c9, c10, hcs⟩ := list11 (l := cs.toList) (by simpa using hsz)
  obtain rfl : cs = #[c0, c1, c2, c3, c4, c5, c6, c7, c8, c9, c10] := by cases cs; simp_all
  obtain ⟨fuel, hf⟩ := h
  obtain ⟨xs, n, _, _, _, hlen, hx⟩ := DataW.trod_struct Try.underlying32 hf
  have hl : xs.length = 11 := hlen
  have g0 := hx 0 _ rfl
  have g1 := hx 1 _ rfl
  have g2 := hx 2 _ rfl
  have g3 := hx 3 _ rfl
  have g4 := hx 4 _ rfl
  have g5 := hx 5 _ rfl
  have g6 := hx 6 _ rfl
  have g7 := hx 7 _ rfl
  have g8 := hx 8 _ rfl
  have g9 := hx 9 _ rfl
  have g10 := hx 10 _ rfl
  simp [Value.cells, cells9, cells3, cells4] at g0 g1 g2 g3 g4 g5 g6 g7 g8 g9 g10
  rw [List.getElem?_eq_getElem (show 0 < xs.length by omega)] at g0
  rw [List.getElem?_eq_getElem (show 1 < xs.length by omega)] at g1
  rw [List.getElem?_eq_getElem (show 2 < xs.length by omega)] at g2
  rw [List.getElem?_eq_getElem (show 3 < xs.length by omega)] at g3
  rw [List.getElem?_eq_getElem (show 4 < xs.length by omega)] at g4
  rw [List.getElem?_eq_getElem (show 5 < xs.length by omega)] at g5
  rw [List.getElem?_eq_getElem (show 6 < xs.length by omega)] at g6
  rw [List.getElem?_eq_getElem (show 7 < xs.length by omega)] at g7
  rw [List.getElem?_eq_getElem (show 8 < xs.length by omega)] at g8
  rw [List.getElem?_eq_getElem (show 9 < xs.length by omega)] at g9
  rw [List.getElem?_eq_getElem (show 10 < xs.length by omega)] at g10
  obtain ⟨want, e0, _, w0⟩ := DataW.trod_string Try.underlying9 g0
  obtain ⟨next, e1, _, w1⟩ := DataW.trod_int Try.underlying3 g1
  obtain ⟨left, e2, _, w2⟩ := DataW.trod_int Try.underlying3 g2
  obtain ⟨pos, e3, _, w3⟩ := DataW.trod_int Try.underlying3 g3
  obtain ⟨fin, e4, _, w4⟩ := DataW.trod_int Try.underlying3 g4
  obtain ⟨field, e5, _, w5⟩ := DataW.trod_int Try.underlying3 g5
  obtain ⟨kind, e6, _, w6⟩ := DataW.trod_int Try.underlying3 g6
  obtain ⟨need, e7, _, w7⟩ := DataW.trod_int Try.underlying3 g7
  obtain ⟨value, e8, _, w8⟩ := DataW.trod_int Try.underlying3 g8
  obtain ⟨other, e9, _⟩ := DataW.trod_bool Try.underlying4 g9
  obtain ⟨verdict, e10, _, w10⟩ := DataW.trod_int Try.underlying3 g10
  simp at e0 e1 e2 e3 e4 e5 e6 e7 e8 e9 e10
  subst e0 e1 e2 e3 e4 e5 e6 e7 e8 e9 e10
  exact ⟨want, next, left, pos, fin, field, kind, need, value, verdict, other, rfl, w0, w8⟩

/-- From the reading of the slice to a row of bytes. -/
theorem bytes_of {W : World} {H : Type} {enc : TypeId × Value → H} {a : Option Addr} {len cap : Nat} {d : DataW H} {p : List MemPlace}
    (h : DataW.Trod enc Try.prog W 0 (fun _ => true) true 22 (.slice a len cap) d p) :
    ∃ zs : List Int, (a = none → len = 0 ∧ cap = 0) ∧ ByteRow W a len (fun k => zs.getD k 0) ∧ (∀ k, 0 ≤ zs.getD k 0 ∧ zs.getD k 0 ≤ 255) ∧ len ≤ maxLen := by
  obtain ⟨fuel, hf⟩ := h
  rcases open_ints Try.underlying22 Try.underlying5 (by kernel_rfl) hf with ⟨hcs, _⟩ | ⟨x, l, c, zs, hcs, _, hl, hm, hz, _, hcell, hwz⟩
  · simp [Value.cells] at hcs
    obtain ⟨rfl, rfl, rfl⟩ := hcs
    exact ⟨[], byteRow_of (.inl ⟨rfl, rfl, rfl, rfl⟩)⟩
  · simp [Value.cells] at hcs
    obtain ⟨rfl, rfl, rfl⟩ := hcs
    exact ⟨zs, byteRow_of (.inr ⟨_, rfl, hl, hm, by simpa using hz, hcell, hwz⟩)⟩

set_option maxRecDepth 100000 in
theorem lifted (os : Os) (started : os.Started) (H : Type) (enc : TypeId × Value → H) :
    ReturnsInHanded {} Try.checked os 9 .any (Rows.fnTakeAgreesWithModelSpec.pre6 enc Try.prog Try.f9 Rows.fnTakeAgreesWithModelRow.domain false) (Rows.fnTakeAgreesWithModelSpec.post enc Try.prog Try.f9 false true false false) := by
  refine returnsInHanded_of_change (C := Try.checked) own started (by kernel_rfl) Try.func9
    (ChangeSpec.witness6 (enc := enc) (C := Try.checked) false ⟨#[], #[.agg #[.string ByteArray.empty, .int .i64 0, .int .i64 0, .int .i64 0, .int .i64 0, .int .i64 0, .int .i64 0, .int .i64 0, .int .i64 0, .bool false, .int .i64 0], .slice none 0 0], []⟩ 8 (by kernel_rfl) (by kernel_rfl) (by kernel_rfl) (by kernel_rfl)) ?_
  intro W base args ds gs before hval0 hW hcnd _
  have hval : ∀ (j : Nat) t v, Try.f9.params[j]? = some t → args[j]? = some v → Value.okWide Try.prog W .any base t v := hval0
  have hW' := hW
  obtain ⟨p, q, hA0, hV, rfl, hfz, hnd⟩ := hW
  have hA : DataW.TrodAll enc Try.prog W 0 (fun _ => true) true Try.f9.params.toList args.toList ds p := hA0
  rw [Try.params9] at hA hval
  obtain ⟨v0, vs0, d0, ds0, p0, q0, hargs, rfl, rfl, h0, r0⟩ := trodAll_cons hA
  obtain ⟨v1, vs1, d1, ds1, p1, q1, rfl, rfl, rfl, h1, r1⟩ := trodAll_cons r0
  obtain ⟨rfl, rfl, rfl⟩ := trodAll_nil r1
  obtain rfl : args = #[v0, v1] := by cases args; simp_all
  obtain ⟨rfl, rfl⟩ := trodVars_none hV
  have k0 := h0
  have lt0 : ∀ x ∈ p0, x.block < W.heap.size := by obtain ⟨m, hm⟩ := k0; exact DataW.trod_lt m _ _ _ hm
  obtain ⟨want, next, left, pos, fin, field, kind, need, value, verdict, other, rfl, w0, w8⟩ := open32 (hval 0 32 v0 rfl rfl) h0
  obtain ⟨b1, b2⟩ := bounds_i64 w8
  obtain ⟨a1, len1, cap1, rfl⟩ := okWide_slice Try.underlying22 (hval 1 22 v1 rfl rfl)
  have k1 := h1
  have lt1 : ∀ x ∈ p1, x.block < W.heap.size := by obtain ⟨m, hm⟩ := k1; exact DataW.trod_lt m _ _ _ hm
  obtain ⟨zs, z1, z2, z3, z4⟩ := bytes_of h1
  clear hA0 hval0
  refine (takeLaw want next left pos fin field kind need value verdict other a1 len1 cap1 _ W z1 z2 z3 w0 z4 b1 b2).mono fun e W' ⟨he, bel⟩ => ?_
  subst he
  exact ⟨_, rfl, _, _, _, [], _, [], hW', trodAll_mk1 (shut_bool Try.underlying4 _), (trodAll_cons_mk (Below.trod laidOut (by kernel_rfl) (of_decide_eq_true (by kernel_rfl)) k0 bel lt0) (trodAll_cons_mk (Below.trod laidOut (by kernel_rfl) (of_decide_eq_true (by kernel_rfl)) k1 bel lt1) trodAll_mk0)), rfl, bel.frame _, fun h => by cases h⟩

theorem over : Rows.fnTakeAgreesWithModelRow.holds Try.pinned (OpenSpec.ofChange Rows.fnTakeAgreesWithModelSpec) :=
  OpenClaim.holds_of_wide 9 Try.f9 rfl rfl rfl rfl rfl rfl rfl ⟨rfl, rfl, rfl, rfl, rfl⟩ rfl rfl rfl rfl rfl (by kernel_rfl) Try.func9 (by kernel_rfl)
    (of_decide_eq_true (by kernel_rfl)) (by unfold Func.isWrapper; first | (rw [if_pos (by decide +kernel)]; kernel_rfl) | (rw [if_neg (by decide +kernel)]; exact ⟨rfl, rfl⟩))
    (fun os started H enc _ => lifted os started H enc)

/-- THE STATEMENT -/
theorem proved : Rows.FnTakeAgreesWithModelSaid := over
#print axioms proved
end Go.Proofs.Qxb6602953a.fnTakeAgreesWithModel
