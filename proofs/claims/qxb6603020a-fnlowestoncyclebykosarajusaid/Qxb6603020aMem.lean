/-
  ROWS AND STACKS IN BLOCKS OF THE CALL'S OWN; an append within the capacity as a law. No program of ours.
-/
import Derived.Test.Qxb6603020aOwn
import Derived.Test.Qxb6603020aGraph
namespace Go.Proofs.Qxb6603020a
open Go.RowKit Pl

/-- A row of n numbers of kind k. -/
def rowI (k : IntKind) (n : Nat) (f : Nat → Int) : List Value := (List.range n).map fun i => .int k (f i)
/-- A row of n bools. -/
def rowB (n : Nat) (f : Nat → Bool) : List Value := (List.range n).map fun i => .bool (f i)

theorem rowI_len (k : IntKind) (n : Nat) (f : Nat → Int) : (rowI k n f).length = n := by simp [rowI]
theorem rowB_len (n : Nat) (f : Nat → Bool) : (rowB n f).length = n := by simp [rowB]
theorem rowI_get {k : IntKind} {n i : Nat} {f : Nat → Int} (h : i < n) : (rowI k n f)[i]? = some (.int k (f i)) := by
  simp [rowI, List.getElem?_range h]
theorem rowB_get {n i : Nat} {f : Nat → Bool} (h : i < n) : (rowB n f)[i]? = some (.bool (f i)) := by
  simp [rowB, List.getElem?_range h]
theorem map_range_set {α : Type} (n i : Nat) (f : Nat → α) (v : α) : ((List.range n).map f).set i v = (List.range n).map (upd f i v) := by
  apply List.ext_getElem
  · simp
  · intro j h1 h2
    simp only [List.getElem_set, List.getElem_map, List.getElem_range]
    by_cases e : i = j
    · rw [if_pos e, e, upd_same]
    · rw [if_neg e, upd_other _ _ (fun q => e q.symm)]
theorem rowI_set (k : IntKind) (n i : Nat) (f : Nat → Int) (v : Int) : (rowI k n f).set i (.int k v) = rowI k n (upd f i v) := by
  unfold rowI
  rw [map_range_set]
  congr 1
  funext x
  unfold upd
  split <;> rfl
theorem rowB_set (n i : Nat) (f : Nat → Bool) (v : Bool) : (rowB n f).set i (.bool v) = rowB n (upd f i v) := by
  unfold rowB
  rw [map_range_set]
  congr 1
  funext x
  unfold upd
  split <;> rfl
theorem rowI_zero (k : IntKind) (n : Nat) : List.replicate n (Value.int k 0) = rowI k n (fun _ => 0) := by
  unfold rowI
  apply List.ext_getElem <;> simp
theorem rowB_zero (n : Nat) : List.replicate n (Value.bool false) = rowB n (fun _ => false) := by
  unfold rowB
  apply List.ext_getElem <;> simp

theorem ownI_cell {w : World} {g n i : Nat} {T : TypeId} {k : IntKind} {f : Nat → Int} (h : Own w g T (rowI k n f)) (hi : i < n) : w.cell? ⟨g, i, none⟩ = some (.int k (f i)) := by
  rw [h.cell, rowI_get hi]
theorem ownB_cell {w : World} {g n i : Nat} {T : TypeId} {f : Nat → Bool} (h : Own w g T (rowB n f)) (hi : i < n) : w.cell? ⟨g, i, none⟩ = some (.bool (f i)) := by
  rw [h.cell, rowB_get hi]
theorem ownI_set {w : World} {g n : Nat} {T : TypeId} {k : IntKind} {f : Nat → Int} (h : Own w g T (rowI k n f)) (i : Nat) (v : Int) : Own (w.setCell ⟨g, i, none⟩ (.int k v)) g T (rowI k n (upd f i v)) := by
  rw [← rowI_set]; exact h.set i _
theorem ownB_set {w : World} {g n : Nat} {T : TypeId} {f : Nat → Bool} (h : Own w g T (rowB n f)) (i : Nat) (v : Bool) : Own (w.setCell ⟨g, i, none⟩ (.bool v)) g T (rowB n (upd f i v)) := by
  rw [← rowB_set]; exact h.set i _
theorem ownI_made (w : World) (T : TypeId) (k : IntKind) (n : Nat) : Own (w.alloc (.cells (madeCells #[.int k 0] n) T)) w.heap.size T (rowI k n (fun _ => 0)) := by
  rw [← rowI_zero]; exact Own.made w T _ n
theorem ownB_made (w : World) (T : TypeId) (n : Nat) : Own (w.alloc (.cells (madeCells #[.bool false] n) T)) w.heap.size T (rowB n (fun _ => false)) := by
  rw [← rowB_zero]; exact Own.made w T _ n

/-- A block of c cells whose first cells hold the numbers of l. -/
def Stk (w : World) (g : Nat) (T : TypeId) (k : IntKind) (c : Nat) (l : List Int) : Prop := ∃ cs, Own w g T cs ∧ cs.length = c ∧ ∀ (i : Nat) (x : Int), l[i]? = some x → cs[i]? = some (.int k x)

theorem Stk.lt {w : World} {g c : Nat} {T : TypeId} {k : IntKind} {l : List Int} (h : Stk w g T k c l) : g < w.heap.size := by obtain ⟨cs, h, _⟩ := h; exact h.lt
theorem Stk.cell {w : World} {g c i : Nat} {T : TypeId} {k : IntKind} {l : List Int} {x : Int} (h : Stk w g T k c l) (hi : l[i]? = some x) : w.cell? ⟨g, i, none⟩ = some (.int k x) := by
  obtain ⟨cs, h, _, hc⟩ := h
  rw [h.cell, hc i x hi]
theorem Stk.free {w : World} {g c : Nat} {T : TypeId} {k : IntKind} {l : List Int} (h : Stk w g T k c l) (i : Nat) : w.frozen? ⟨g, i, none⟩ = false := by obtain ⟨cs, h, _⟩ := h; exact h.free i
theorem Stk.len {w : World} {g c : Nat} {T : TypeId} {k : IntKind} {l : List Int} (h : Stk w g T k c l) : l.length ≤ c := by
  obtain ⟨cs, _, hl, hc⟩ := h
  by_cases e : l.length = 0
  · omega
  · obtain ⟨m, hm⟩ : ∃ m, l.length = m + 1 := ⟨l.length - 1, by omega⟩
    have := hc m _ (List.getElem?_eq_getElem (show m < l.length by omega))
    have := (List.getElem?_eq_some_iff.1 this).1
    omega
theorem Stk.alloc {w : World} {g c : Nat} {T : TypeId} {k : IntKind} {l : List Int} (h : Stk w g T k c l) (o : Obj) : Stk (w.alloc o) g T k c l := by obtain ⟨cs, h, r⟩ := h; exact ⟨cs, h.alloc o, r⟩
theorem Stk.drewN {w : World} {g c : Nat} {T : TypeId} {k : IntKind} {l : List Int} (h : Stk w g T k c l) (n : Nat) : Stk (w.drewN n) g T k c l := h
theorem Stk.other {w : World} {g c : Nat} {T : TypeId} {k : IntKind} {l : List Int} (h : Stk w g T k c l) {a : Addr} (ha : a.block ≠ g) (v : Value) : Stk (w.setCell a v) g T k c l := by obtain ⟨cs, h, r⟩ := h; exact ⟨cs, h.other ha v, r⟩
theorem Stk.below {w w' : World} {g c B : Nat} {T : TypeId} {k : IntKind} {l : List Int} (h : Stk w g T k c l) (hb : Below B w w') (hg : g < B) : Stk w' g T k c l := by obtain ⟨cs, h, r⟩ := h; exact ⟨cs, h.below hb hg, r⟩
theorem Stk.take {w : World} {g c : Nat} {T : TypeId} {k : IntKind} {l m : List Int} (h : Stk w g T k c (l ++ m)) : Stk w g T k c l := by
  obtain ⟨cs, h, hl, hc⟩ := h
  exact ⟨cs, h, hl, fun i x hx => hc i x (by rw [List.getElem?_append_left (List.getElem?_eq_some_iff.1 hx).1]; exact hx)⟩
theorem Stk.set {w : World} {g c : Nat} {T : TypeId} {k : IntKind} {l : List Int} (h : Stk w g T k c l) (i : Nat) (v : Int) : Stk (w.setCell ⟨g, i, none⟩ (.int k v)) g T k c (l.set i v) := by
  obtain ⟨cs, h, hl, hc⟩ := h
  refine ⟨cs.set i (.int k v), h.set i _, by rw [List.length_set]; exact hl, fun j x hx => ?_⟩
  by_cases e : i = j
  · subst e
    obtain ⟨h1, h2⟩ := List.getElem?_eq_some_iff.1 hx
    rw [List.length_set] at h1
    rw [List.getElem_set_self] at h2
    subst h2
    have := hc i _ (List.getElem?_eq_getElem h1)
    rw [List.getElem?_set_self (List.getElem?_eq_some_iff.1 this).1]
  · rw [List.getElem?_set_ne e] at hx
    rw [List.getElem?_set_ne e]
    exact hc j x hx
theorem Stk.new (w : World) (T : TypeId) (k : IntKind) (n : Nat) : Stk (w.alloc (.cells (madeCells #[.int k 0] n) T)) w.heap.size T k n [] :=
  ⟨_, Own.made w T _ n, by simp, fun i x h => by simp at h⟩

/-- The cells of other blocks stand behind a law that ends in 'grownBy'. -/
theorem Own.grown {w w' : World} {g h : Nat} {T : TypeId} {cs : List Value} (hO : Own w g T cs) (hg : w.grownBy w' (some h)) (hne : g ≠ h) : Own w' g T cs := by
  have hl := hO.lt
  unfold Own at hO ⊢
  rw [hg.block g hl (fun e => hne (by simpa using e))]
  exact hO
theorem Stk.grown {w w' : World} {g h c : Nat} {T : TypeId} {k : IntKind} {l : List Int} (hO : Stk w g T k c l) (hg : w.grownBy w' (some h)) (hne : g ≠ h) : Stk w' g T k c l := by
  obtain ⟨cs, hO, r⟩ := hO
  exact ⟨cs, hO.grown hg hne, r⟩

/-- 'append(s, x)' WITHIN THE CAPACITY, s a stack of the call's own: the value stays where it is; the new number lies behind the others. -/
theorem wpList_push {P : Program} (w : World) {ops : Array Oper} {rest : List Oper} {o : Oper} {a : Act} {Q : Exit → Act → World → Prop}
    (hg : o.guard = none) (s x : Operand) (t : TypeId) (hop : o.op = Op.call { callee := Callee.builtin Builtin.append, args := #[s, x], argTypes := #[t, t] })
    (e : TypeId) (i : TypeInfo) (h1 : P.underlying t = some (.slice e)) (h2 : P.info? e = some i) (h4 : i.size = 1)
    (g c : Nat) (k : IntKind) (l : List Int) (hO : Stk w g e k c l) (L : Nat) (hL : l.length = L) (hs : a.eval s = .slice (some ⟨g, 0, none⟩) L c) (hk : L < c)
    (h : Nat) (v : Int) (hx : a.eval x = .slice (some ⟨h, 0, none⟩) 1 1) (hv : w.cell? ⟨h, 0, none⟩ = some (.int k v))
    (hK : ∀ w', Stk w' g e k c (l ++ [v]) → w.grownBy w' (some g) → wpList P ops Q rest (a.put o.dst (.slice (some ⟨g, 0, none⟩) (L + 1) c)) w') :
    wpList P ops Q (o :: rest) a w := by
  subst hL
  refine wpList_plain hg fun K hK' => ?_
  obtain ⟨cs, hO, hl, hc⟩ := hO
  have hr := run_append_room (P := P) w t o.type e i h1 h2 g l.length c cs.toArray hO ⟨h, 0, none⟩ 1 1 [.int k v] (by simp [h4]) (fun j u hj => by
    match j, hj with
    | 0, hj => simp at hj; subst hj; simpa [Addr.add] using hv) (fun u hu => by simp at hu; subst hu; rfl) (by omega) (by simp [h4]; omega)
  have hw' : Stk (w.setRow g (cs.toArray.toList.take (l.length * i.size) ++ [Value.int k v] ++ cs.toArray.toList.drop (l.length * i.size + [Value.int k v].length)).toArray) g e k c (l ++ [v]) := by
    refine ⟨cs.take l.length ++ [Value.int k v] ++ cs.drop (l.length + 1), ?_, ?_, ?_⟩
    · have := setRow_heap w g cs.toArray (cs.take l.length ++ [Value.int k v] ++ cs.drop (l.length + 1)).toArray e (0, 0) hO
      unfold Own
      simpa [h4] using this
    · simp; omega
    · intro j y hy
      rw [List.append_assoc]
      by_cases hj : j < l.length
      · rw [List.getElem?_append_left hj] at hy
        rw [List.getElem?_append_left (by simp; omega), List.getElem?_take, if_pos hj]
        exact hc j y hy
      · rw [List.getElem?_append_right (by omega)] at hy
        have ej : j = l.length := by
          have := (List.getElem?_eq_some_iff.1 hy).1
          simp at this; omega
        subst ej
        simp at hy
        subst hy
        rw [List.getElem?_append_right (by simp; omega)]
        simp [Nat.min_eq_left (show l.length ≤ cs.length by omega)]
  have hgr : w.grownBy (w.setRow g (cs.toArray.toList.take (l.length * i.size) ++ [Value.int k v] ++ cs.toArray.toList.drop (l.length * i.size + [Value.int k v].length)).toArray) (some g) :=
    ⟨rfl, rfl, rfl, by simp, fun b _ hb => setRow_other w g b _ (fun q => hb (by simp [q]))⟩
  obtain ⟨w', hrun, r1, r2⟩ : ∃ w', (Builtin.append_ #[t, t] o.type #[.slice (some ⟨g, 0, none⟩) l.length c, .slice (some ⟨h, 0, none⟩) 1 1]).run P w = .ok (.slice (some ⟨g, 0, none⟩) (l.length + 1) c) w' ∧ Stk w' g e k c (l ++ [v]) ∧ w.grownBy w' (some g) :=
    ⟨_, hr, hw', hgr⟩
  unfold Oper.wp
  simp [execOp, hop, resolve, invoke, builtin, hs, hx, hrun, Result.andThen]
  exact hK' _ _ (hK w' r1 r2)
end Go.Proofs.Qxb6603020a
