/-
  The memory of lowestOnCycle: the rows 'index', 'low', 'onStack' with their variables, the variables 'stack', 'calls', 'visited', the two rows that grow.
-/
import Derived.Test.Qxb6603020aKrow
import Derived.Deep.AppendLies
import Derived.Laws.OwnMore
import Derived.OneCell
import Derived.WalkSmall
namespace Go.Proofs.Qxb6603020a
open Go.RowKit Pl

theorem Own.grownO {w w' : World} {g : Nat} {row : Option Nat} {T : TypeId} {cs : List Value} (hO : Own w g T cs) (hg : w.grownBy w' row) (hne : some g ≠ row) : Own w' g T cs := by
  unfold Own
  rw [hg.block g hO.lt hne]
  exact hO
theorem own1_set {w : World} {g : Nat} {T : TypeId} {x : Value} (h : Own w g T [x]) (y : Value) : Own (w.setCell ⟨g, 0, none⟩ y) g T [y] := h.set 0 y
theorem own1_cell {w : World} {g : Nat} {T : TypeId} {x : Value} (h : Own w g T [x]) : w.cell? ⟨g, 0, none⟩ = some x := h.cell 0

/-- The stack's cells; the calls' cells. -/
def sl (l : List Nat) : List Value := l.map fun x : Nat => .int .i32 (x : Int)
def fl (nx : Nat → Nat) (l : List Nat) : List Value := l.flatMap fun v : Nat => [.int .i32 (v : Int), .int .i64 (nx v : Int)]
theorem sl_append (l m : List Nat) : sl (l ++ m) = sl l ++ sl m := by unfold sl; rw [List.map_append]
theorem sl_len (l : List Nat) : (sl l).length = l.length := by unfold sl; rw [List.length_map]
theorem sl_get {l : List Nat} {i x : Nat} (h : l[i]? = some x) : (sl l)[i]? = some (.int .i32 (x : Int)) := by unfold sl; rw [List.getElem?_map, h]; rfl
theorem fl_append (nx : Nat → Nat) (l m : List Nat) : fl nx (l ++ m) = fl nx l ++ fl nx m := by unfold fl; rw [List.flatMap_append]
theorem fl_one (nx : Nat → Nat) (v : Nat) : fl nx [v] = [.int .i32 (v : Int), .int .i64 (nx v : Int)] := rfl
theorem fl_len (nx : Nat → Nat) : ∀ (l : List Nat), (fl nx l).length = l.length * 2
  | [] => rfl
  | v :: l => by
    have := fl_len nx l
    show (_ ++ fl nx l).length = _
    rw [List.length_append, this]
    simp
    omega
theorem fl_congr {nx nx' : Nat → Nat} : ∀ {l : List Nat}, (∀ x ∈ l, nx x = nx' x) → fl nx l = fl nx' l
  | [], _ => rfl
  | v :: l, h => by
    show [_, Value.int .i64 (nx v : Int)] ++ fl nx l = [_, Value.int .i64 (nx' v : Int)] ++ fl nx' l
    rw [h v (by simp), fl_congr (fun x hx => h x (by simp [hx]))]

structure TM (w wr : World) (n : Nat) (idx low : Nat → Nat) (on : Nat → Bool) (stk gr : List Nat) (nx : Nat → Nat) (vis : Nat) (sv cv : Value) : Prop where
  hi : Own wr w.heap.size 3 (rowN n idx)
  bi : Own wr (w.heap.size + 1) 22 [.slice (some ⟨w.heap.size, 0, none⟩) n n]
  hl : Own wr (w.heap.size + 1 + 1) 3 (rowN n low)
  bl : Own wr (w.heap.size + 1 + 1 + 1) 22 [.slice (some ⟨w.heap.size + 1 + 1, 0, none⟩) n n]
  ho : Own wr (w.heap.size + 1 + 1 + 1 + 1) 4 (rowB n on)
  bo : Own wr (w.heap.size + 1 + 1 + 1 + 1 + 1) 23 [.slice (some ⟨w.heap.size + 1 + 1 + 1 + 1, 0, none⟩) n n]
  bs : Own wr (w.heap.size + 1 + 1 + 1 + 1 + 1 + 1) 37 [sv]
  bc : Own wr (w.heap.size + 1 + 1 + 1 + 1 + 1 + 1 + 1) 90 [cv]
  bv : Own wr (w.heap.size + 1 + 1 + 1 + 1 + 1 + 1 + 1 + 1) 3 [.int .i64 (vis : Int)]
  rs : wr.ownsRow (w.heap.size + 9) 21 1 sv stk.length (sl stk)
  rc : wr.ownsRow (w.heap.size + 9) 92 2 cv gr.length (fl nx gr)
  ne : ∀ g, sv.ownBlock = some g → cv.ownBlock ≠ some g
  hb : Below w.heap.size w wr

variable {w wr w1 : World} {n : Nat} {idx low : Nat → Nat} {on : Nat → Bool} {stk gr pre : List Nat} {nx : Nat → Nat} {vis : Nat} {sv cv : Value} {v : Nat}

theorem TM.sb (M : TM w wr n idx low on stk gr nx vis sv cv) {k : Nat} (hk : k < w.heap.size + 9) : sv.ownBlock ≠ some k := fun e => by have := (M.rs.lt k e).1; omega
theorem TM.cb (M : TM w wr n idx low on stk gr nx vis sv cv) {k : Nat} (hk : k < w.heap.size + 9) : cv.ownBlock ≠ some k := fun e => by have := (M.rc.lt k e).1; omega

theorem TM.alloc (M : TM w wr n idx low on stk gr nx vis sv cv) (o : Obj) : TM w (wr.alloc o) n idx low on stk gr nx vis sv cv :=
  ⟨M.hi.alloc o, M.bi.alloc o, M.hl.alloc o, M.bl.alloc o, M.ho.alloc o, M.bo.alloc o, M.bs.alloc o, M.bc.alloc o, M.bv.alloc o, M.rs.alloc o, M.rc.alloc o, M.ne, M.hb.alloc M.hb.size o⟩
theorem TM.drewN (M : TM w wr n idx low on stk gr nx vis sv cv) (q : Nat) : TM w (wr.drewN q) n idx low on stk gr nx vis sv cv :=
  ⟨M.hi, M.bi, M.hl, M.bl, M.ho, M.bo, M.bs, M.bc, M.bv, M.rs, M.rc, M.ne, below_drewN M.hb q⟩
theorem TM.drew (M : TM w wr n idx low on stk gr nx vis sv cv) : TM w wr.drew n idx low on stk gr nx vis sv cv := M.drewN 1
/-- Where only new blocks come. -/
theorem TM.below (M : TM w wr n idx low on stk gr nx vis sv cv) (h : Below wr.heap.size wr w1) : TM w w1 n idx low on stk gr nx vis sv cv := by
  have hg : wr.grownBy w1 none := ⟨h.os, h.tape, h.output, h.size, fun k hk _ => h.block k hk⟩
  refine ⟨M.hi.below h M.hi.lt, M.bi.below h M.bi.lt, M.hl.below h M.hl.lt, M.bl.below h M.bl.lt, M.ho.below h M.ho.lt, M.bo.below h M.bo.lt, M.bs.below h M.bs.lt, M.bc.below h M.bc.lt, M.bv.below h M.bv.lt, M.rs.kept hg ?_, M.rc.kept hg ?_, M.ne, M.hb.trans (h.mono M.hb.size)⟩
  · cases h : sv.ownBlock <;> simp
  · cases h : cv.ownBlock <;> simp
theorem TM.setI (M : TM w wr n idx low on stk gr nx vis sv cv) (x y : Nat) : TM w (wr.setCell ⟨w.heap.size, x, none⟩ (.int .i64 (y : Int))) n (upd idx x y) low on stk gr nx vis sv cv :=
  ⟨ownN_set M.hi x y, M.bi.other (by show w.heap.size ≠ _; omega) _, M.hl.other (by show w.heap.size ≠ _; omega) _, M.bl.other (by show w.heap.size ≠ _; omega) _, M.ho.other (by show w.heap.size ≠ _; omega) _, M.bo.other (by show w.heap.size ≠ _; omega) _, M.bs.other (by show w.heap.size ≠ _; omega) _, M.bc.other (by show w.heap.size ≠ _; omega) _, M.bv.other (by show w.heap.size ≠ _; omega) _,
   ownsRow_setCell_other M.rs (M.sb (by show w.heap.size < _; omega)) _, ownsRow_setCell_other M.rc (M.cb (by show w.heap.size < _; omega)) _, M.ne, M.hb.setCell (Nat.le_refl _) _⟩
theorem TM.setL (M : TM w wr n idx low on stk gr nx vis sv cv) (x y : Nat) : TM w (wr.setCell ⟨w.heap.size + 1 + 1, x, none⟩ (.int .i64 (y : Int))) n idx (upd low x y) on stk gr nx vis sv cv :=
  ⟨M.hi.other (by show w.heap.size + 1 + 1 ≠ _; omega) _, M.bi.other (by show w.heap.size + 1 + 1 ≠ _; omega) _, ownN_set M.hl x y, M.bl.other (by show w.heap.size + 1 + 1 ≠ _; omega) _, M.ho.other (by show w.heap.size + 1 + 1 ≠ _; omega) _, M.bo.other (by show w.heap.size + 1 + 1 ≠ _; omega) _, M.bs.other (by show w.heap.size + 1 + 1 ≠ _; omega) _, M.bc.other (by show w.heap.size + 1 + 1 ≠ _; omega) _, M.bv.other (by show w.heap.size + 1 + 1 ≠ _; omega) _,
   ownsRow_setCell_other M.rs (M.sb (by show w.heap.size + 1 + 1 < _; omega)) _, ownsRow_setCell_other M.rc (M.cb (by show w.heap.size + 1 + 1 < _; omega)) _, M.ne, M.hb.setCell (by show _ ≤ w.heap.size + 1 + 1; omega) _⟩
theorem TM.setO (M : TM w wr n idx low on stk gr nx vis sv cv) (x : Nat) (y : Bool) : TM w (wr.setCell ⟨w.heap.size + 1 + 1 + 1 + 1, x, none⟩ (.bool y)) n idx low (upd on x y) stk gr nx vis sv cv :=
  ⟨M.hi.other (by show w.heap.size + 1 + 1 + 1 + 1 ≠ _; omega) _, M.bi.other (by show w.heap.size + 1 + 1 + 1 + 1 ≠ _; omega) _, M.hl.other (by show w.heap.size + 1 + 1 + 1 + 1 ≠ _; omega) _, M.bl.other (by show w.heap.size + 1 + 1 + 1 + 1 ≠ _; omega) _, ownB_set M.ho x y, M.bo.other (by show w.heap.size + 1 + 1 + 1 + 1 ≠ _; omega) _, M.bs.other (by show w.heap.size + 1 + 1 + 1 + 1 ≠ _; omega) _, M.bc.other (by show w.heap.size + 1 + 1 + 1 + 1 ≠ _; omega) _, M.bv.other (by show w.heap.size + 1 + 1 + 1 + 1 ≠ _; omega) _,
   ownsRow_setCell_other M.rs (M.sb (by show w.heap.size + 1 + 1 + 1 + 1 < _; omega)) _, ownsRow_setCell_other M.rc (M.cb (by show w.heap.size + 1 + 1 + 1 + 1 < _; omega)) _, M.ne, M.hb.setCell (by show _ ≤ w.heap.size + 1 + 1 + 1 + 1; omega) _⟩
theorem TM.setV (M : TM w wr n idx low on stk gr nx vis sv cv) (y : Nat) : TM w (wr.setCell ⟨w.heap.size + 1 + 1 + 1 + 1 + 1 + 1 + 1 + 1, 0, none⟩ (.int .i64 (y : Int))) n idx low on stk gr nx y sv cv := by
  have e : ∀ k, k < 8 → w.heap.size + 1 + 1 + 1 + 1 + 1 + 1 + 1 + 1 ≠ w.heap.size + k := fun k hk => by omega
  exact ⟨M.hi.other (e 0 (by omega)) _, M.bi.other (e 1 (by omega)) _, M.hl.other (e 2 (by omega)) _, M.bl.other (e 3 (by omega)) _, M.ho.other (e 4 (by omega)) _, M.bo.other (e 5 (by omega)) _, M.bs.other (e 6 (by omega)) _, M.bc.other (e 7 (by omega)) _, own1_set M.bv _,
   ownsRow_setCell_other M.rs (M.sb (by show w.heap.size + 1 + 1 + 1 + 1 + 1 + 1 + 1 + 1 < _; omega)) _, ownsRow_setCell_other M.rc (M.cb (by show w.heap.size + 1 + 1 + 1 + 1 + 1 + 1 + 1 + 1 < _; omega)) _, M.ne, M.hb.setCell (by show _ ≤ w.heap.size + 1 + 1 + 1 + 1 + 1 + 1 + 1 + 1; omega) _⟩

/-- 'stack = ..': the variable is set, the row stands. -/
theorem TM.varS (M : TM w wr n idx low on stk gr nx vis sv cv) {stk' : List Nat} {sv' : Value} (hr : wr.ownsRow (w.heap.size + 9) 21 1 sv' stk'.length (sl stk')) (hne : ∀ g, sv'.ownBlock = some g → cv.ownBlock ≠ some g) :
    TM w (wr.setCell ⟨w.heap.size + 1 + 1 + 1 + 1 + 1 + 1, 0, none⟩ sv') n idx low on stk' gr nx vis sv' cv := by
  have e : ∀ k, k ≠ 6 → w.heap.size + 1 + 1 + 1 + 1 + 1 + 1 ≠ w.heap.size + k := fun k hk => by omega
  exact ⟨M.hi.other (e 0 (by omega)) _, M.bi.other (e 1 (by omega)) _, M.hl.other (e 2 (by omega)) _, M.bl.other (e 3 (by omega)) _, M.ho.other (e 4 (by omega)) _, M.bo.other (e 5 (by omega)) _, own1_set M.bs _, M.bc.other (e 7 (by omega)) _, M.bv.other (e 8 (by omega)) _,
   ownsRow_setCell_other hr (fun q => by have := (hr.lt _ q).1; revert this; show _ ≤ w.heap.size + 1 + 1 + 1 + 1 + 1 + 1 → _; omega) _, ownsRow_setCell_other M.rc (M.cb (by show w.heap.size + 1 + 1 + 1 + 1 + 1 + 1 < _; omega)) _, hne, M.hb.setCell (by show _ ≤ w.heap.size + 1 + 1 + 1 + 1 + 1 + 1; omega) _⟩
theorem TM.varC (M : TM w wr n idx low on stk gr nx vis sv cv) {gr' : List Nat} {nx' : Nat → Nat} {cv' : Value} (hr : wr.ownsRow (w.heap.size + 9) 92 2 cv' gr'.length (fl nx' gr')) (hne : ∀ g, sv.ownBlock = some g → cv'.ownBlock ≠ some g) :
    TM w (wr.setCell ⟨w.heap.size + 1 + 1 + 1 + 1 + 1 + 1 + 1, 0, none⟩ cv') n idx low on stk gr' nx' vis sv cv' := by
  have e : ∀ k, k ≠ 7 → w.heap.size + 1 + 1 + 1 + 1 + 1 + 1 + 1 ≠ w.heap.size + k := fun k hk => by omega
  exact ⟨M.hi.other (e 0 (by omega)) _, M.bi.other (e 1 (by omega)) _, M.hl.other (e 2 (by omega)) _, M.bl.other (e 3 (by omega)) _, M.ho.other (e 4 (by omega)) _, M.bo.other (e 5 (by omega)) _, M.bs.other (e 6 (by omega)) _, own1_set M.bc _, M.bv.other (e 8 (by omega)) _,
   ownsRow_setCell_other M.rs (M.sb (by show w.heap.size + 1 + 1 + 1 + 1 + 1 + 1 + 1 < _; omega)) _, ownsRow_setCell_other hr (fun q => by have := (hr.lt _ q).1; revert this; show _ ≤ w.heap.size + 1 + 1 + 1 + 1 + 1 + 1 + 1 → _; omega) _, hne, M.hb.setCell (by show _ ≤ w.heap.size + 1 + 1 + 1 + 1 + 1 + 1 + 1; omega) _⟩

/-- Behind an append to the stack, and behind the store. -/
theorem TM.pushS (M : TM w wr n idx low on stk gr nx vis sv cv) {g cap L : Nat} (hL : L = stk.length + 1)
    (hr : w1.ownsRow (w.heap.size + 9) 21 1 (.slice (some ⟨g, 0, none⟩) L cap) L (sl stk ++ [.int .i32 (v : Int)])) (hg : wr.grownBy w1 sv.ownBlock) (hat : sv.ownBlock = some g ∨ g = wr.heap.size) :
    TM w (w1.setCell ⟨w.heap.size + 1 + 1 + 1 + 1 + 1 + 1, 0, none⟩ (.slice (some ⟨g, 0, none⟩) L cap)) n idx low on (stk ++ [v]) gr nx vis (.slice (some ⟨g, 0, none⟩) L cap) cv := by
  have ne : ∀ k, k < w.heap.size + 9 → some k ≠ sv.ownBlock := fun k hk e => M.sb hk e.symm
  have hgc : cv.ownBlock ≠ some g := by
    rcases hat with q | q
    · exact M.ne g q
    · intro e
      have := (M.rc.lt g e).2
      omega
  have M1 : TM w w1 n idx low on stk gr nx vis sv cv ∨ True := .inr trivial
  have hb1 : Below w.heap.size w w1 := M.hb.grown hg M.hb.size (fun k e => by have := (M.rs.lt k e).1; omega)
  have rc1 : w1.ownsRow (w.heap.size + 9) 92 2 cv gr.length (fl nx gr) := M.rc.kept hg (by
    cases hc : cv.ownBlock with
    | none => exact .inl rfl
    | some c => exact .inr (fun e => M.ne c e.symm hc))
  have e : ∀ k, k ≠ 6 → w.heap.size + 1 + 1 + 1 + 1 + 1 + 1 ≠ w.heap.size + k := fun k hk => by omega
  refine ⟨(M.hi.grownO hg (ne _ (by omega))).other (e 0 (by omega)) _, (M.bi.grownO hg (ne _ (by omega))).other (e 1 (by omega)) _, (M.hl.grownO hg (ne _ (by omega))).other (e 2 (by omega)) _, (M.bl.grownO hg (ne _ (by omega))).other (e 3 (by omega)) _, (M.ho.grownO hg (ne _ (by omega))).other (e 4 (by omega)) _, (M.bo.grownO hg (ne _ (by omega))).other (e 5 (by omega)) _,
    own1_set (M.bs.grownO hg (ne _ (by omega))) _, (M.bc.grownO hg (ne _ (by omega))).other (e 7 (by omega)) _, (M.bv.grownO hg (ne _ (by omega))).other (e 8 (by omega)) _, ?_, ownsRow_setCell_other rc1 (M.cb (by show w.heap.size + 1 + 1 + 1 + 1 + 1 + 1 < _; omega)) _, ?_, hb1.setCell (by show _ ≤ w.heap.size + 1 + 1 + 1 + 1 + 1 + 1; omega) _⟩
  · rw [sl_append, List.length_append]
    subst hL
    refine ownsRow_setCell_other hr (fun q => ?_) _
    have := (hr.lt _ q).1
    revert this
    show _ ≤ w.heap.size + 1 + 1 + 1 + 1 + 1 + 1 → _
    omega
  · intro k hk
    simp [Value.ownBlock] at hk
    subst hk
    exact hgc
theorem TM.pushC (M : TM w wr n idx low on stk gr nx vis sv cv) {g cap L : Nat} (hL : L = gr.length + 1) (hv : v ∉ gr)
    (hr : w1.ownsRow (w.heap.size + 9) 92 2 (.slice (some ⟨g, 0, none⟩) L cap) L (fl nx gr ++ [.int .i32 (v : Int), .int .i64 0])) (hg : wr.grownBy w1 cv.ownBlock) (hat : cv.ownBlock = some g ∨ g = wr.heap.size) :
    TM w (w1.setCell ⟨w.heap.size + 1 + 1 + 1 + 1 + 1 + 1 + 1, 0, none⟩ (.slice (some ⟨g, 0, none⟩) L cap)) n idx low on stk (gr ++ [v]) (upd nx v 0) vis sv (.slice (some ⟨g, 0, none⟩) L cap) := by
  have ne : ∀ k, k < w.heap.size + 9 → some k ≠ cv.ownBlock := fun k hk e => M.cb hk e.symm
  have hgc : sv.ownBlock ≠ some g := by
    rcases hat with q | q
    · exact fun e => M.ne g e q
    · intro e
      have := (M.rs.lt g e).2
      omega
  have hb1 : Below w.heap.size w w1 := M.hb.grown hg M.hb.size (fun k e => by have := (M.rc.lt k e).1; omega)
  have rs1 : w1.ownsRow (w.heap.size + 9) 21 1 sv stk.length (sl stk) := M.rs.kept hg (by
    cases hc : sv.ownBlock with
    | none => exact .inl rfl
    | some c => exact .inr (fun e => M.ne c hc e.symm))
  have e : ∀ k, k ≠ 7 → w.heap.size + 1 + 1 + 1 + 1 + 1 + 1 + 1 ≠ w.heap.size + k := fun k hk => by omega
  refine ⟨(M.hi.grownO hg (ne _ (by omega))).other (e 0 (by omega)) _, (M.bi.grownO hg (ne _ (by omega))).other (e 1 (by omega)) _, (M.hl.grownO hg (ne _ (by omega))).other (e 2 (by omega)) _, (M.bl.grownO hg (ne _ (by omega))).other (e 3 (by omega)) _, (M.ho.grownO hg (ne _ (by omega))).other (e 4 (by omega)) _, (M.bo.grownO hg (ne _ (by omega))).other (e 5 (by omega)) _,
    (M.bs.grownO hg (ne _ (by omega))).other (e 6 (by omega)) _, own1_set (M.bc.grownO hg (ne _ (by omega))) _, (M.bv.grownO hg (ne _ (by omega))).other (e 8 (by omega)) _, ownsRow_setCell_other rs1 (M.sb (by show w.heap.size + 1 + 1 + 1 + 1 + 1 + 1 + 1 < _; omega)) _, ?_, ?_, hb1.setCell (by show _ ≤ w.heap.size + 1 + 1 + 1 + 1 + 1 + 1 + 1; omega) _⟩
  · rw [fl_append, fl_one, upd_same, List.length_append, fl_congr (nx := upd nx v 0) (nx' := nx) (l := gr) (fun x hx => upd_other _ _ (fun q => hv (by rw [← q]; exact hx)))]
    subst hL
    refine ownsRow_setCell_other hr (fun q => ?_) _
    have := (hr.lt _ q).1
    revert this
    show _ ≤ w.heap.size + 1 + 1 + 1 + 1 + 1 + 1 + 1 → _
    omega
  · intro k hk hk2
    simp [Value.ownBlock] at hk2
    subst hk2
    exact hgc hk

/-- The last call's edge counter is set. -/
theorem TM.setN {g cap L : Nat} (M : TM w wr n idx low on stk (pre ++ [v]) nx vis sv (.slice (some ⟨g, 0, none⟩) L cap)) (hL : L = pre.length + 1) (hv : v ∉ pre) (y : Nat) :
    TM w (wr.setCell ⟨g, pre.length * 2 + 1, none⟩ (.int .i64 (y : Int))) n idx low on stk (pre ++ [v]) (upd nx v y) vis sv (.slice (some ⟨g, 0, none⟩) L cap) := by
  have hl : (pre ++ [v]).length = L := by rw [List.length_append, hL]; rfl
  have hr := M.rc
  rw [hl] at hr
  have hgB : w.heap.size + 9 ≤ g := (hr.lt g rfl).1
  have e : ∀ k, k < 9 → g ≠ w.heap.size + k := fun k hk => by omega
  have h2 := (hr.stored (pre.length * 2 + 1) (.int .i64 (y : Int))).1
  have hs : (fl nx (pre ++ [v])).set (pre.length * 2 + 1) (.int .i64 (y : Int)) = fl (upd nx v y) (pre ++ [v]) := by
    rw [fl_append, fl_append, List.set_append_right _ _ (by rw [fl_len]; omega), fl_len, fl_one, fl_one, upd_same, fl_congr (nx := upd nx v y) (nx' := nx) (l := pre) (fun x hx => upd_other _ _ (fun q => hv (by rw [← q]; exact hx))), show pre.length * 2 + 1 - pre.length * 2 = 1 by omega]
    rfl
  rw [hs] at h2
  refine ⟨M.hi.other (e 0 (by omega)) _, M.bi.other (e 1 (by omega)) _, M.hl.other (e 2 (by omega)) _, M.bl.other (e 3 (by omega)) _, M.ho.other (e 4 (by omega)) _, M.bo.other (e 5 (by omega)) _, M.bs.other (e 6 (by omega)) _, M.bc.other (e 7 (by omega)) _, M.bv.other (e 8 (by omega)) _, ?_, by rw [hl]; exact h2, M.ne, M.hb.setCell (by show _ ≤ g; omega) _⟩
  exact ownsRow_setCell_other M.rs (fun q => M.ne g q rfl) _
/-- The last call is taken off. -/
theorem TM.popC {g cap L : Nat} (M : TM w wr n idx low on stk (pre ++ [v]) nx vis sv (.slice (some ⟨g, 0, none⟩) L cap)) (hL : L = pre.length + 1) :
    TM w (wr.setCell ⟨w.heap.size + 1 + 1 + 1 + 1 + 1 + 1 + 1, 0, none⟩ (.slice (some ⟨g, 0, none⟩) pre.length cap)) n idx low on stk pre nx vis sv (.slice (some ⟨g, 0, none⟩) pre.length cap) := by
  have hr := M.rc
  have hl : (pre ++ [v]).length = pre.length + 1 := by rw [List.length_append]; rfl
  rw [hl, hL, fl_append] at hr
  exact M.varC (ownsRow_pop (fl_len nx pre) hr) (fun k hk => by have := M.ne k hk; simpa [Value.ownBlock] using this)
/-- The stack is cut. -/
theorem ownsRow_cut {w : World} {base : Nat} {e : TypeId} {g cap n m : Nat} {xs last : List Value} (hx : xs.length = m) (hm : m ≤ n)
    (h : w.ownsRow base e 1 (.slice (some ⟨g, 0, none⟩) n cap) n (xs ++ last)) : w.ownsRow base e 1 (.slice (some ⟨g, 0, none⟩) m cap) m xs := by
  obtain ⟨_, h2⟩ := h
  rcases h2 with ⟨h0, _⟩ | ⟨g', cap', cur, hv, hg, hh, hn, hcap, hsz, htake⟩
  · cases h0
  · cases hv
    refine ⟨by omega, .inr ⟨g, cap, cur, rfl, hg, hh, by omega, hcap, hsz, ?_⟩⟩
    have h3 : (cur.toList.take (n * 1)).take (m * 1) = (xs ++ last).take (m * 1) := by rw [htake]
    rw [List.take_take, Nat.min_eq_left (by omega)] at h3
    rw [h3, Nat.mul_one, ← hx]
    exact take_len _ _
theorem TM.popS {g cap L : Nat} {s t : List Nat} (M : TM w wr n idx low on (s ++ t) gr nx vis (.slice (some ⟨g, 0, none⟩) L cap) cv) (hL : L = s.length + t.length) :
    TM w (wr.setCell ⟨w.heap.size + 1 + 1 + 1 + 1 + 1 + 1, 0, none⟩ (.slice (some ⟨g, 0, none⟩) s.length cap)) n idx low on s gr nx vis (.slice (some ⟨g, 0, none⟩) s.length cap) cv := by
  have hr := M.rs
  rw [List.length_append, ← hL, sl_append] at hr
  exact M.varS (ownsRow_cut (sl_len s) (by omega) hr) (fun k hk => M.ne k (by simpa [Value.ownBlock] using hk))
/-- What the variables 'stack' and 'calls' look like. -/
theorem TM.formS (M : TM w wr n idx low on stk gr nx vis sv cv) (h : 0 < stk.length) : ∃ g cap, sv = .slice (some ⟨g, 0, none⟩) stk.length cap ∧ w.heap.size + 9 ≤ g ∧ stk.length ≤ cap := by
  rcases M.rs.2 with ⟨_, h0⟩ | ⟨g, cap, cur, hv, hb, _, hc, _⟩
  · omega
  · exact ⟨g, cap, hv, hb, hc⟩
theorem TM.formC (M : TM w wr n idx low on stk gr nx vis sv cv) (h : 0 < gr.length) : ∃ g cap, cv = .slice (some ⟨g, 0, none⟩) gr.length cap ∧ w.heap.size + 9 ≤ g ∧ gr.length ≤ cap := by
  rcases M.rc.2 with ⟨_, h0⟩ | ⟨g, cap, cur, hv, hb, _, hc, _⟩
  · omega
  · exact ⟨g, cap, hv, hb, hc⟩
theorem TM.lenC (M : TM w wr n idx low on stk gr nx vis sv cv) : ∃ a c, cv = .slice a gr.length c := by
  rcases M.rc.2 with ⟨e, h0⟩ | ⟨g, cap, cur, hv, hb, _, hc, _⟩
  · exact ⟨none, 0, by rw [h0]; exact e⟩
  · exact ⟨_, cap, hv⟩
theorem TM.cellS {g cap L x i : Nat} (M : TM w wr n idx low on stk gr nx vis (.slice (some ⟨g, 0, none⟩) L cap) cv) (hL : L = stk.length) (hi : stk[i]? = some x) : wr.cell? ⟨g, i, none⟩ = some (.int .i32 (x : Int)) := by
  have h := M.rs
  rw [← hL] at h
  have hlt := (List.getElem?_eq_some_iff.1 hi).1
  rw [h.cellAt i (by omega)]
  exact sl_get hi
theorem TM.topC {g cap L : Nat} (M : TM w wr n idx low on stk (pre ++ [v]) nx vis sv (.slice (some ⟨g, 0, none⟩) L cap)) (hL : L = pre.length + 1) :
    wr.cell? ⟨g, pre.length * 2, none⟩ = some (.int .i32 (v : Int)) ∧ wr.cell? ⟨g, pre.length * 2 + 1, none⟩ = some (.int .i64 (nx v : Int)) ∧ wr.frozen? ⟨g, pre.length * 2 + 1, none⟩ = false := by
  have h := M.rc
  have hl : (pre ++ [v]).length = L := by rw [List.length_append, hL]; rfl
  rw [hl] at h
  refine ⟨?_, ?_, h.frozenAt _⟩
  · rw [h.cellAt _ (by omega), fl_append, List.getElem?_append_right (by rw [fl_len]; omega), fl_len, Nat.sub_self]
    rfl
  · rw [h.cellAt _ (by omega), fl_append, List.getElem?_append_right (by rw [fl_len]; omega), fl_len, show pre.length * 2 + 1 - pre.length * 2 = 1 by omega]
    rfl
/-- At the loops' beginning. -/
theorem TM.start (w : World) (n : Nat) : TM w (((((((((w.alloc (.cells (madeCells #[.int .i64 0] n) 3)).alloc (.cells #[.slice (some ⟨w.heap.size, 0, none⟩) n n] 22)).alloc (.cells (madeCells #[.int .i64 0] n) 3)).alloc (.cells #[.slice (some ⟨w.heap.size + 1 + 1, 0, none⟩) n n] 22)).alloc (.cells (madeCells #[.bool false] n) 4)).alloc
      (.cells #[.slice (some ⟨w.heap.size + 1 + 1 + 1 + 1, 0, none⟩) n n] 23)).alloc (.cells #[.slice none 0 0] 37)).alloc (.cells #[.slice none 0 0] 90)).alloc (.cells #[.int .i64 0] 3)) n (fun _ => 0) (fun _ => 0) (fun _ => false) [] [] (fun _ => 0) 0 (.slice none 0 0) (.slice none 0 0) := by
  have new1 : ∀ (w0 : World) (T : TypeId) (x : Value) (k : Nat), w0.heap.size = k → Own (w0.alloc (.cells #[x] T)) k T [x] := fun w0 T x k h => by rw [← h]; exact Own.new w0 T [x]
  have newN : ∀ (w0 : World) (k : Nat), w0.heap.size = k → Own (w0.alloc (.cells (madeCells #[.int .i64 0] n) 3)) k 3 (rowN n (fun _ => 0)) := fun w0 k h => by rw [← h]; exact ownN_made w0 n
  have newB : ∀ (w0 : World) (k : Nat), w0.heap.size = k → Own (w0.alloc (.cells (madeCells #[.bool false] n) 4)) k 4 (rowB n (fun _ => false)) := fun w0 k h => by rw [← h]; exact ownB_made w0 4 n
  refine ⟨?_, ?_, ?_, ?_, ?_, ?_, ?_, ?_, ?_, World.ownsRow_nil _ _ _ _, World.ownsRow_nil _ _ _ _, fun g h => by simp [Value.ownBlock] at h, ?_⟩
  · exact ((((((((newN w _ rfl).alloc _).alloc _).alloc _).alloc _).alloc _).alloc _).alloc _).alloc _
  · exact (((((((new1 _ _ _ _ (by simp)).alloc _).alloc _).alloc _).alloc _).alloc _).alloc _).alloc _
  · exact ((((((newN _ _ (by simp)).alloc _).alloc _).alloc _).alloc _).alloc _).alloc _
  · exact (((((new1 _ _ _ _ (by simp)).alloc _).alloc _).alloc _).alloc _).alloc _
  · exact ((((newB _ _ (by simp)).alloc _).alloc _).alloc _).alloc _
  · exact (((new1 _ _ _ _ (by simp)).alloc _).alloc _).alloc _
  · exact ((new1 _ _ _ _ (by simp)).alloc _).alloc _
  · exact (new1 _ _ _ _ (by simp)).alloc _
  · exact new1 _ _ _ _ (by simp)
  · refine ((((((((((Below.refl _ w).alloc ?_ _).alloc ?_ _).alloc ?_ _).alloc ?_ _).alloc ?_ _).alloc ?_ _).alloc ?_ _).alloc ?_ _).alloc ?_ _)
    all_goals (simp; try omega)
end Go.Proofs.Qxb6603020a
