/-
  The first pass of Kosaraju in memory: the row 'seen' (block B), the stacks 'order' (B+1), 'stackV' (B+2), 'stackE' (B+3).
-/
import Derived.Test.Qxb6603020aMem
import Derived.Test.Qxb6603020aCsr
import Derived.Test.Qxb6603020aMeas
namespace Go.Proofs.Qxb6603020a
open Go.RowKit Pl

def cl (l : List Nat) : List Int := l.map fun x : Nat => (x : Int)
theorem cl_append (l m : List Nat) : cl (l ++ m) = cl l ++ cl m := by unfold cl; rw [List.map_append]
theorem cl_one (x : Nat) : cl [x] = [(x : Int)] := rfl
theorem cl_len (l : List Nat) : (cl l).length = l.length := by unfold cl; rw [List.length_map]
theorem cl_get {l : List Nat} {i x : Nat} (h : l[i]? = some x) : (cl l)[i]? = some (x : Int) := by unfold cl; rw [List.getElem?_map, h]; rfl

/-- The first pass in memory: vl, el: what the two stacks hold. -/
structure KM (w wr : World) (n : Nat) (seen : Nat → Bool) (ol vl el : List Int) : Prop where
  hs : Own wr w.heap.size 4 (rowB n seen)
  ho : Stk wr (w.heap.size + 1) 3 .i64 n ol
  hv : Stk wr (w.heap.size + 1 + 1) 3 .i64 n vl
  he : Stk wr (w.heap.size + 1 + 1 + 1) 3 .i64 n el
  hb : Below w.heap.size w wr

variable {w wr w1 : World} {n : Nat} {seen : Nat → Bool} {ol vl el : List Int}
theorem KM.drewN (M : KM w wr n seen ol vl el) (q : Nat) : KM w (wr.drewN q) n seen ol vl el := ⟨M.hs.drewN q, M.ho.drewN q, M.hv.drewN q, M.he.drewN q, below_drewN M.hb q⟩
theorem KM.alloc (M : KM w wr n seen ol vl el) (o : Obj) : KM w (wr.alloc o) n seen ol vl el := ⟨M.hs.alloc o, M.ho.alloc o, M.hv.alloc o, M.he.alloc o, M.hb.alloc M.hb.size o⟩
theorem KM.see (M : KM w wr n seen ol vl el) (x : Nat) : KM w (wr.setCell ⟨w.heap.size, x, none⟩ (.bool true)) n (upd seen x true) ol vl el :=
  ⟨ownB_set M.hs x true, M.ho.other (by show w.heap.size ≠ _; omega) _, M.hv.other (by show w.heap.size ≠ _; omega) _, M.he.other (by show w.heap.size ≠ _; omega) _, M.hb.setCell (Nat.le_refl _) _⟩
theorem KM.eset (M : KM w wr n seen ol vl el) (t : Nat) (v : Int) : KM w (wr.setCell ⟨w.heap.size + 1 + 1 + 1, t, none⟩ (.int .i64 v)) n seen ol vl (el.set t v) :=
  ⟨M.hs.other (by show w.heap.size + 1 + 1 + 1 ≠ _; omega) _, M.ho.other (by show w.heap.size + 1 + 1 + 1 ≠ _; omega) _, M.hv.other (by show w.heap.size + 1 + 1 + 1 ≠ _; omega) _, M.he.set t v, M.hb.setCell (by show _ ≤ w.heap.size + 1 + 1 + 1; omega) _⟩
theorem KM.pushV (M : KM w wr n seen ol vl el) {vl' : List Int} (hV : Stk w1 (w.heap.size + 1 + 1) 3 .i64 n vl') (hg : wr.grownBy w1 (some (w.heap.size + 1 + 1))) : KM w w1 n seen ol vl' el :=
  ⟨M.hs.grown hg (by omega), M.ho.grown hg (by omega), hV, M.he.grown hg (by omega), M.hb.grown hg M.hb.size (fun k e => by simp at e; omega)⟩
theorem KM.pushE (M : KM w wr n seen ol vl el) {el' : List Int} (hE : Stk w1 (w.heap.size + 1 + 1 + 1) 3 .i64 n el') (hg : wr.grownBy w1 (some (w.heap.size + 1 + 1 + 1))) : KM w w1 n seen ol vl el' :=
  ⟨M.hs.grown hg (by omega), M.ho.grown hg (by omega), M.hv.grown hg (by omega), hE, M.hb.grown hg M.hb.size (fun k e => by simp at e; omega)⟩
theorem KM.pushO (M : KM w wr n seen ol vl el) {ol' : List Int} (hO : Stk w1 (w.heap.size + 1) 3 .i64 n ol') (hg : wr.grownBy w1 (some (w.heap.size + 1))) : KM w w1 n seen ol' vl el :=
  ⟨M.hs.grown hg (by omega), hO, M.hv.grown hg (by omega), M.he.grown hg (by omega), M.hb.grown hg M.hb.size (fun k e => by simp at e; omega)⟩
theorem KM.popVE {v e : Int} (M : KM w wr n seen ol (vl ++ [v]) (el ++ [e])) : KM w wr n seen ol vl el := ⟨M.hs, M.ho, M.hv.take, M.he.take, M.hb⟩
theorem KM.start (w : World) (n : Nat) : KM w ((((w.alloc (.cells (madeCells #[.bool false] n) 4)).alloc (.cells (madeCells #[.int .i64 0] n) 3)).alloc (.cells (madeCells #[.int .i64 0] n) 3)).alloc (.cells (madeCells #[.int .i64 0] n) 3)) n (fun _ => false) [] [] [] := by
  refine ⟨(((ownB_made w 4 n).alloc _).alloc _).alloc _, ?_, ?_, ?_, ((((Below.refl _ _).alloc (Nat.le_refl _) _).alloc (by simp) _).alloc (by simp; omega) _).alloc (by simp; omega) _⟩
  · have h := Stk.new (w.alloc (.cells (madeCells #[.bool false] n) 4)) 3 .i64 n
    simp only [World.size_alloc] at h
    exact (h.alloc _).alloc _
  · have h := Stk.new ((w.alloc (.cells (madeCells #[.bool false] n) 4)).alloc (.cells (madeCells #[.int .i64 0] n) 3)) 3 .i64 n
    simp only [World.size_alloc] at h
    exact h.alloc _
  · have h := Stk.new (((w.alloc (.cells (madeCells #[.bool false] n) 4)).alloc (.cells (madeCells #[.int .i64 0] n) 3)).alloc (.cells (madeCells #[.int .i64 0] n) 3)) 3 .i64 n
    simp only [World.size_alloc] at h
    exact h

/-- The offsets that stand on 'stackE'. -/
def eL (pos nx : Nat → Nat) (stk : List Nat) : List Int := stk.map fun v => ((pos v + nx v : Nat) : Int)
theorem eL_append (pos nx : Nat → Nat) (l m : List Nat) : eL pos nx (l ++ m) = eL pos nx l ++ eL pos nx m := by unfold eL; rw [List.map_append]
theorem eL_len (pos nx : Nat → Nat) (l : List Nat) : (eL pos nx l).length = l.length := by unfold eL; rw [List.length_map]
theorem eL_congr {pos nx nx' : Nat → Nat} {l : List Nat} (h : ∀ x ∈ l, nx x = nx' x) : eL pos nx l = eL pos nx' l := by
  unfold eL
  exact List.map_congr_left (fun x hx => by rw [h x hx])

/-- What stands at the head of the first pass's loops. -/
structure KN (w wr : World) (n : Nat) (out pos : Nat → Nat) (s : Nat) (seen : Nat → Bool) (ord stk : List Nat) (nx : Nat → Nat) : Prop where
  ki : KI n (degC pos) (tgtC out pos) seen ord stk nx
  km : KM w wr n seen (cl ord) (cl stk) (eL pos nx stk)
  sn : ∀ x, x < s → seen x = true
  ct : cb seen n = ord.length + stk.length
end Go.Proofs.Qxb6603020a
