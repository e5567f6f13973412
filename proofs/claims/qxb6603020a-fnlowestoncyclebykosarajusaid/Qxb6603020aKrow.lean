/-
  The reversed edges in memory: counts, their sums, the places filled.
-/
import Derived.Test.Qxb6603020aKmem
namespace Go.Proofs.Qxb6603020a
open Go.RowKit Pl

/-- The counts, one place on. -/
def cF (out : Nat → Nat) (a0 k : Nat) : Nat → Nat
  | 0 => 0
  | x + 1 => cnt out a0 x k
/-- The sums up to v, the counts behind. -/
def pF (out : Nat → Nat) (a0 K v : Nat) (x : Nat) : Nat := if x ≤ v then rAt out a0 K x else cF out a0 K x
variable {out : Nat → Nat} {a0 k K v n : Nat}

/-- A row of numbers. -/
def rowN (n : Nat) (f : Nat → Nat) : List Value := rowI .i64 n (fun x => (f x : Int))
theorem rowN_congr {f g : Nat → Nat} (h : ∀ x, x < n → f x = g x) : rowN n f = rowN n g := by
  unfold rowN rowI
  exact List.map_congr_left (fun x hx => by show Value.int _ ((f x : Nat) : Int) = Value.int _ ((g x : Nat) : Int); rw [h x (List.mem_range.1 hx)])
theorem ownN_cell {w : World} {g n i : Nat} {f : Nat → Nat} (h : Own w g 3 (rowN n f)) (hi : i < n) : w.cell? ⟨g, i, none⟩ = some (.int .i64 (f i : Int)) := ownI_cell h hi
theorem ownN_set {w : World} {g n : Nat} {f : Nat → Nat} (h : Own w g 3 (rowN n f)) (i v : Nat) : Own (w.setCell ⟨g, i, none⟩ (.int .i64 (v : Int))) g 3 (rowN n (upd f i v)) := by
  have := ownI_set h i (v : Int)
  have e : (fun x => ((upd f i v x : Nat) : Int)) = upd (fun x => ((f x : Nat) : Int)) i (v : Int) := by
    funext x
    unfold upd
    by_cases q : x = i
    · simp only [q, if_pos]
    · simp only [q, if_false]
  unfold rowN
  rw [e]
  exact this
theorem ownN_made (w : World) (n : Nat) : Own (w.alloc (.cells (madeCells #[.int .i64 0] n) 3)) w.heap.size 3 (rowN n (fun _ => 0)) := ownI_made w 3 .i64 n

theorem cnt_le {x : Nat} : ∀ {k : Nat}, cnt out a0 x k ≤ k
  | 0 => Nat.le_refl _
  | k + 1 => by
    have := cnt_le (x := x) (k := k)
    show cnt out a0 x k + (if _ then 1 else 0) ≤ _
    split <;> omega
theorem cF_le {x : Nat} : cF out a0 k x ≤ k := by
  cases x with
  | zero => exact Nat.zero_le _
  | succ x => exact cnt_le
/-- All the reversed edges. -/
theorem rAt_all {pos : Nat → Nat} (C : Csr n out pos) (K : Nat) (hK : pos 0 + K = pos n) : rAt out (pos 0) K n = K := by
  unfold rAt
  exact cnt_sum (fun j hj => C.tg _ (by omega) (by omega))

theorem cF_zero : cF out a0 0 = fun _ => 0 := by
  funext x
  cases x <;> rfl
theorem cF_step : upd (cF out a0 k) (out (a0 + k) + 1) (cF out a0 k (out (a0 + k) + 1) + 1) = cF out a0 (k + 1) := by
  funext x
  by_cases e : x = out (a0 + k) + 1
  · rw [e, upd_same]
    exact cnt_same.symm
  · rw [upd_other _ _ e]
    cases x with
    | zero => rfl
    | succ x => exact (cnt_other (fun q => e (by rw [q]))).symm
theorem pF_zero : pF out a0 K 0 = cF out a0 K := by
  funext x
  unfold pF
  by_cases e : x ≤ 0
  · obtain rfl : x = 0 := by omega
    rfl
  · rw [if_neg e]
theorem pF_at (v : Nat) : pF out a0 K v v = rAt out a0 K v := by unfold pF; rw [if_pos (Nat.le_refl _)]
theorem pF_next (v : Nat) : pF out a0 K v (v + 1) = cnt out a0 v K := by unfold pF; rw [if_neg (by omega)]; rfl
theorem pF_step : upd (pF out a0 K v) (v + 1) (cnt out a0 v K + rAt out a0 K v) = pF out a0 K (v + 1) := by
  funext x
  by_cases e : x = v + 1
  · rw [e, upd_same, pF_at, rAt_succ]; omega
  · rw [upd_other _ _ e]
    unfold pF
    by_cases q : x ≤ v
    · rw [if_pos q, if_pos (by omega)]
    · rw [if_neg q, if_neg (by omega)]
theorem pF_done : rowN (n + 1) (pF out a0 K n) = rowN (n + 1) (rAt out a0 K) := rowN_congr (fun x hx => by unfold pF; rw [if_pos (by omega)])

/-- The second part of the call's memory: the order, and the row of offsets (block g). -/
structure R1 (w wr : World) (n : Nat) (ord : List Nat) (g : Nat) (f : Nat → Nat) : Prop where
  ho : Stk wr (w.heap.size + 1) 3 .i64 n (cl ord)
  ha : Own wr g 3 (rowN (n + 1) f)
  hb : Below w.heap.size w wr
  hg : w.heap.size + 1 < g
variable {w wr wc : World} {ord : List Nat} {g : Nat} {f : Nat → Nat}
theorem R1.drewN (M : R1 w wr n ord g f) (q : Nat) : R1 w (wr.drewN q) n ord g f := ⟨M.ho.drewN q, M.ha.drewN q, below_drewN M.hb q, M.hg⟩
theorem R1.alloc (M : R1 w wr n ord g f) (o : Obj) : R1 w (wr.alloc o) n ord g f := ⟨M.ho.alloc o, M.ha.alloc o, M.hb.alloc M.hb.size o, M.hg⟩
theorem R1.set (M : R1 w wr n ord g f) (x v : Nat) : R1 w (wr.setCell ⟨g, x, none⟩ (.int .i64 (v : Int))) n ord g (upd f x v) :=
  have hg := M.hg
  ⟨M.ho.other (by show g ≠ _; omega) _, ownN_set M.ha x v, M.hb.setCell (by show _ ≤ g; omega) _, M.hg⟩
theorem R1.other (M : R1 w wr n ord g f) {a : Addr} (h1 : w.heap.size + 1 < a.block) (h2 : a.block ≠ g) (v : Value) : R1 w (wr.setCell a v) n ord g f :=
  ⟨M.ho.other (by omega) _, M.ha.other h2 _, M.hb.setCell (by omega) _, M.hg⟩
theorem R1.start (hO : Stk wc (w.heap.size + 1) 3 .i64 n (cl ord)) (hb : Below w.heap.size w wc) (out : Nat → Nat) (a0 : Nat) :
    R1 w (wc.alloc (.cells (madeCells #[.int .i64 0] (n + 1)) 3)) n ord wc.heap.size (cF out a0 0) := by
  refine ⟨hO.alloc _, ?_, hb.alloc hb.size _, hO.lt⟩
  rw [cF_zero]
  exact ownN_made wc (n + 1)
theorem R1.drew (M : R1 w wr n ord g f) : R1 w wr.drew n ord g f := M.drewN 1
theorem R1.below {w1 : World} (M : R1 w wr n ord g f) (h : Below wr.heap.size wr w1) : R1 w w1 n ord g f :=
  ⟨M.ho.below h M.ho.lt, M.ha.below h M.ha.lt, M.hb.trans (h.mono M.hb.size), M.hg⟩

/-- The places being copied. -/
def fF (out : Nat → Nat) (a0 K v : Nat) (x : Nat) : Nat := if x < v then rAt out a0 K x else 0
/-- Where the next reversed edge of x goes. -/
def gF (out : Nat → Nat) (a0 K k : Nat) (x : Nat) : Nat := rAt out a0 K x + cnt out a0 x k
theorem fF_zero : fF out a0 K 0 = fun _ => 0 := by
  funext x
  unfold fF
  rw [if_neg (by omega)]
theorem fF_step : upd (fF out a0 K v) v (rAt out a0 K v) = fF out a0 K (v + 1) := by
  funext x
  by_cases e : x = v
  · rw [e, upd_same]; unfold fF; rw [if_pos (by omega)]
  · rw [upd_other _ _ e]
    unfold fF
    by_cases q : x < v
    · rw [if_pos q, if_pos (by omega)]
    · rw [if_neg q, if_neg (by omega)]
theorem fF_done : rowN n (fF out a0 K n) = rowN n (gF out a0 K 0) := rowN_congr (fun x hx => by unfold fF gF; rw [if_pos hx]; rfl)
theorem gF_step : upd (gF out a0 K k) (out (a0 + k)) (gF out a0 K k (out (a0 + k)) + 1) = gF out a0 K (k + 1) := by
  funext x
  unfold gF
  by_cases e : x = out (a0 + k)
  · rw [e, upd_same, cnt_same]; omega
  · rw [upd_other _ _ e, cnt_other e]
theorem gF_lt {pos : Nat → Nat} (C : Csr n out pos) (hK : pos 0 + K = pos n) (hk : k < K) (hx : out (pos 0 + k) < n) : gF out (pos 0) K k (out (pos 0 + k)) < K := by
  have h1 := cnt_lt (out := out) (a0 := pos 0) hk
  have h2 := rAt_succ (out := out) (a0 := pos 0) (K := K) (x := out (pos 0 + k))
  have h3 := rAt_mono (out := out) (a0 := pos 0) (K := K) (show out (pos 0 + k) + 1 ≤ n by omega)
  rw [rAt_all C K hK] at h3
  unfold gF
  omega
theorem rAt_le {pos : Nat → Nat} (C : Csr n out pos) (hK : pos 0 + K = pos n) {x : Nat} (hx : x ≤ n) : rAt out (pos 0) K x ≤ K := by
  have h3 := rAt_mono (out := out) (a0 := pos 0) (K := K) hx
  rwa [rAt_all C K hK] at h3

/-- The order, the offsets, the reversed edges (block r) and the places (block r + 1). -/
structure R2 (w wr : World) (n : Nat) (ord : List Nat) (g : Nat) (f : Nat → Nat) (r K : Nat) (rev fill : Nat → Nat) : Prop where
  r1 : R1 w wr n ord g f
  hr : Own wr r 3 (rowN K rev)
  hf : Own wr (r + 1) 3 (rowN n fill)
  gr : g < r
variable {r : Nat} {rev fill : Nat → Nat}
theorem R2.setF (M : R2 w wr n ord g f r K rev fill) (x v : Nat) : R2 w (wr.setCell ⟨r + 1, x, none⟩ (.int .i64 (v : Int))) n ord g f r K rev (upd fill x v) :=
  have h1 := M.gr
  have h2 := M.r1.hg
  ⟨M.r1.other (by show _ < r + 1; omega) (by show r + 1 ≠ _; omega) _, M.hr.other (by show r + 1 ≠ _; omega) _, ownN_set M.hf x v, M.gr⟩
theorem R2.setR (M : R2 w wr n ord g f r K rev fill) (x v : Nat) : R2 w (wr.setCell ⟨r, x, none⟩ (.int .i64 (v : Int))) n ord g f r K (upd rev x v) fill :=
  have h1 := M.gr
  have h2 := M.r1.hg
  ⟨M.r1.other (by show _ < r; omega) (by show r ≠ _; omega) _, ownN_set M.hr x v, M.hf.other (by show r ≠ _; omega) _, M.gr⟩
theorem R2.start (M : R1 w wc n ord g f) (K : Nat) : R2 w ((wc.alloc (.cells (madeCells #[.int .i64 0] K) 3)).alloc (.cells (madeCells #[.int .i64 0] n) 3)) n ord g f wc.heap.size K (fun _ => 0) (fun _ => 0) := by
  refine ⟨(M.alloc _).alloc _, (ownN_made wc K).alloc _, ?_, M.ha.lt⟩
  have h := ownN_made (wc.alloc (.cells (madeCells #[.int .i64 0] K) 3)) n
  simp only [World.size_alloc] at h
  exact h
end Go.Proofs.Qxb6603020a
