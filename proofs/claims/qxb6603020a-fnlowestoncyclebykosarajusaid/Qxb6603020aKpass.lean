/-
  The second pass: the plain steps with the counts, and the memory.
-/
import Derived.Test.Qxb6603020aKrow
namespace Go.Proofs.Qxb6603020a.Pl

/-- While the nodes behind a root are gathered. -/
structure K4 (n : Nat) (E : Nat → Nat → Prop) (D0 : Nat → Bool) (root : Nat) (done : Nat → Bool) (P s : List Nat) (least : Nat) : Prop where
  k3 : K3 n E D0 root done P s
  cl : ∀ x ∈ P, ∀ u, E u x → done u = true
  ct : cb done n = cb D0 n + (P.length + s.length)
  l1 : least = root ∨ least ∈ P
  l2 : ∀ x ∈ P, least ≤ x
  l3 : least < n
/-- While the predecessors of v, just taken off, are looked at: those from a up to p are marked. -/
structure K5 (n : Nat) (E : Nat → Nat → Prop) (D0 : Nat → Bool) (root : Nat) (done : Nat → Bool) (P s : List Nat) (v : Nat) (rev : Nat → Nat) (a p : Nat) : Prop where
  k3 : K3 n E D0 root done (P ++ [v]) s
  cl : ∀ x ∈ P, ∀ u, E u x → done u = true
  cv : ∀ q, a ≤ q → q < p → done (rev q) = true
  ct : cb done n = cb D0 n + (P.length + 1 + s.length)

variable {n : Nat} {E : Nat → Nat → Prop} {D0 : Nat → Bool} {root : Nat} {done : Nat → Bool} {P s : List Nat} {least v : Nat} {rev : Nat → Nat} {a p : Nat}

theorem K4.start (hr : root < n) (h0 : D0 root = false) : K4 n E D0 root (upd D0 root true) [] [root] root :=
  ⟨K3.start hr h0, fun _ h => (nomatch h), by rw [cb_push hr h0]; rfl, .inl rfl, fun _ h => (nomatch h), hr⟩
theorem K4.top (I : K4 n E D0 root done P (s ++ [v]) least) : v < n ∧ P.length + (s.length + 1) ≤ n := by
  have h1 := (I.k3.isd v (.inr (by simp))).2.2.1
  have h2 := cb_le done n
  have h3 := I.ct
  rw [List.length_append] at h3
  have h4 : [v].length = 1 := rfl
  exact ⟨h1, by omega⟩
theorem K4.pop (I : K4 n E D0 root done P (s ++ [v]) least) (a : Nat) : K5 n E D0 root done P s v rev a a :=
  ⟨I.k3.pop, I.cl, fun _ h1 h2 => absurd h2 (by omega), by have := I.ct; rw [List.length_append] at this; have h4 : [v].length = 1 := rfl; omega⟩
theorem K5.skip (I : K5 n E D0 root done P s v rev a p) (h : done (rev p) = true) : K5 n E D0 root done P s v rev a (p + 1) :=
  ⟨I.k3, I.cl, fun q h1 h2 => by
    by_cases e : q = p
    · rw [e]; exact h
    · exact I.cv q h1 (by omega), I.ct⟩
theorem K5.push (I : K5 n E D0 root done P s v rev a p) {u : Nat} (hu : rev p = u) (hn : u < n) (h : done u = false) (e : E u v) : K5 n E D0 root (upd done u true) P (s ++ [u]) v rev a (p + 1) := by
  have mono : ∀ x, done x = true → upd done u true x = true := fun x hx => by
    by_cases q : x = u
    · rw [q, upd_same]
    · rw [upd_other _ _ q]; exact hx
  refine ⟨I.k3.push hn h (by simp) e, fun x hx y hy => mono y (I.cl x hx y hy), fun q h1 h2 => ?_, ?_⟩
  · by_cases e : q = p
    · rw [e, hu, upd_same]
    · exact mono _ (I.cv q h1 (by omega))
  · rw [cb_push hn h, I.ct, List.length_append]
    have h4 : [u].length = 1 := rfl
    omega
theorem K5.room (I : K5 n E D0 root done P s v rev a p) {u : Nat} (hn : u < n) (h : done u = false) : s.length < n := by
  have h1 := cb_lt hn h
  have h2 := I.ct
  omega
theorem K5.all {b : Nat} (I : K5 n E D0 root done P s v rev a b) (hb : ∀ u, E u v → ∃ q, a ≤ q ∧ q < b ∧ rev q = u) (l1 : least = root ∨ least ∈ P) (l2 : ∀ x ∈ P, least ≤ x) (l3 : least < n)
    {least' : Nat} (hl : least' = if v < least then v else least) : K4 n E D0 root done (P ++ [v]) s least' := by
  refine ⟨I.k3, fun x hx u hu => ?_, ?_, ?_, ?_, ?_⟩
  · rcases List.mem_append.1 hx with q | q
    · exact I.cl x q u hu
    · obtain rfl : x = v := by simpa using q
      obtain ⟨q, h1, h2, rfl⟩ := hb u hu
      exact I.cv q h1 h2
  · rw [I.ct, List.length_append]
    have h4 : [v].length = 1 := rfl
    omega
  · by_cases h : v < least
    · rw [hl, if_pos h]; exact .inr (by simp)
    · rw [hl, if_neg h]
      rcases l1 with q | q
      · exact .inl q
      · exact .inr (List.mem_append.2 (.inl q))
  · intro x hx
    rcases List.mem_append.1 hx with q | q
    · have := l2 x q
      rw [hl]
      split <;> omega
    · obtain rfl : x = v := by simpa using q
      rw [hl]
      split <;> omega
  · rw [hl]
    split <;> omega

/-- The root's component is whole: the next root's state. -/
theorem K4.finish {lo : Int} (I : K4 n E D0 root done P [] least) (K : K2 n E D0 lo) (hfr : ∀ x, PU (fun z => z < n ∧ D0 z = false) E root x → Reach E root x) {lo' : Int}
    (hlo : lo' = if 1 < P.length ∧ (lo < 0 ∨ (least : Int) < lo) then (least : Int) else lo) : K2 n E done lo' := by
  obtain ⟨h1, h2, h3⟩ := I.k3.all I.cl K hfr
  have hrP : root ∈ P := by
    rcases I.k3.rt with q | q
    · exact q
    · cases q
  have hlP : least ∈ P := by
    rcases I.l1 with q | q
    · rw [q]; exact hrP
    · exact q
  have hnd : P.Nodup := by have := I.k3.nd; rwa [List.append_nil] at this
  -- P is one component
  have scc : ∀ x y, x ∈ P → y ∈ P → Reach E x y ∧ Reach E y x := fun x y hx hy => ⟨(h1 x hx).2.trans (h1 y hy).1, (h1 y hy).2.trans (h1 x hx).1⟩
  have big : 1 < P.length → ∀ x ∈ P, OnC E x := fun hp x hx => by
    obtain ⟨y, hy, hne⟩ : ∃ y ∈ P, y ≠ x := by
      match P, hp, hnd with
      | y :: z :: t, _, hnd =>
        by_cases q : y = x
        · refine ⟨z, by simp, fun q2 => ?_⟩
          have := (List.nodup_cons.1 hnd).1
          rw [q, ← q2] at this
          simp at this
        · exact ⟨y, by simp, q⟩
    exact ⟨y, hne, scc x y hx hy⟩
  have small : ¬ 1 < P.length → ∀ x ∈ P, ¬ OnC E x := fun hp x hx => by
    rintro ⟨y, hne, h4, h5⟩
    have hy : y ∈ P := h2 y ((h1 x hx).1.trans h4) (h5.trans (h1 x hx).2)
    match P, hp, hx, hy with
    | [z], _, hx, hy =>
      simp at hx hy
      exact hne (by rw [hx, hy])
    | _ :: _ :: _, hp, _, _ => exact hp (by simp)
  refine I.k3.next I.cl K hfr ?_
  by_cases hp : 1 < P.length
  · by_cases hq : lo < 0 ∨ (least : Int) < lo
    · rw [hlo, if_pos ⟨hp, hq⟩]
      exact K.lw.take (C := fun x => x ∈ P) h3 hlP (big hp _ hlP) I.l2 hq
    · rw [hlo, if_neg (fun h => hq h.2)]
      exact K.lw.keep (C := fun x => x ∈ P) (m := least) h3 I.l2 (by omega) (by omega)
  · rw [hlo, if_neg (fun h => hp h.1)]
    refine K.lw.skip (fun x hx => ?_) (fun x hx => (h3 x).2 (.inl hx))
    rcases (h3 x).1 hx with q | q
    · exact .inl q
    · exact .inr (small hp x q)
theorem K4.marked (I : K4 n E D0 root done P s least) {ord : List Nat} {j : Nat} (hj : ord[j]? = some root) (hd : ∀ k x, j + 1 ≤ k → ord[k]? = some x → D0 x = true) : ∀ k x, j ≤ k → ord[k]? = some x → done x = true := fun k x hk hx => by
  by_cases e : k = j
  · rw [e, hj] at hx
    obtain rfl : root = x := by simpa using hx
    exact (I.k3.isd root I.k3.rt).1
  · exact I.k3.old x (hd k x (by omega) hx)
theorem K4.size (I : K4 n E D0 root done P s least) : P.length ≤ n := by
  have h1 := cb_le done n
  have h2 := I.ct
  omega
theorem K2.range {lo : Int} (K : K2 n E done lo) : -1 ≤ lo ∧ lo < n := by
  rcases K.lw with ⟨rfl, _⟩ | ⟨k, rfl, hk, _⟩
  · omega
  · have := K.bd k hk
    omega

/-- Whatever comes to the next root is reached from it. -/
theorem KI.fresh {deg : Nat → Nat} {tgt : Nat → Nat → Nat} {seen : Nat → Bool} {ord : List Nat} {nx : Nat → Nat} (I : KI n deg tgt seen ord [] nx) (hs : ∀ x, x < n → seen x = true) {i : Nat}
    (hi : ord[i]? = some root) (h0 : D0 root = false) (hdn : ∀ k x, i < k → ord[k]? = some x → D0 x = true) : ∀ x, PU (fun z => z < n ∧ D0 z = false) (Ed n deg tgt) root x → Reach (Ed n deg tgt) root x := by
  have hord : ∀ x, x < n ∧ D0 x = false → ∃ k, k ≤ i ∧ ord[k]? = some x := fun x hx => by
    have hm := (I.so x hx.1).1 (hs x hx.1)
    rcases hm with q | q
    · obtain ⟨k, hk⟩ := List.getElem?_of_mem q
      refine ⟨k, ?_, hk⟩
      by_cases hki : k ≤ i
      · exact hki
      · have := hdn k x (by omega) hk
        rw [hx.2] at this
        cases this
    · cases q
  have hrn : root < n := I.ob root (List.mem_of_getElem? hi)
  have hnd : ord.Nodup := (List.nodup_append.1 I.nd).1
  intro x hx
  obtain ⟨k, hk, e⟩ := hord x (hx.inU ⟨hrn, h0⟩)
  exact PU.from (U := fun z => z < n ∧ D0 z = false) hord hi hnd ⟨hrn, h0⟩ I.p3 i k x (by omega) e hx
/-- At the end every node is marked. -/
theorem KI.whole {deg : Nat → Nat} {tgt : Nat → Nat → Nat} {seen : Nat → Bool} {ord : List Nat} {nx : Nat → Nat} (I : KI n deg tgt seen ord [] nx) (hs : ∀ x, x < n → seen x = true) {lo : Int} (K : K2 n E done lo)
    (hdn : ∀ (k x : Nat), 0 ≤ k → ord[k]? = some x → done x = true) : Low E (fun x => x < n) lo :=
  K.lw.congr (fun x => ⟨K.bd x, fun hx => by
    rcases (I.so x hx).1 (hs x hx) with q | q
    · obtain ⟨k, hk⟩ := List.getElem?_of_mem q
      exact hdn k x (Nat.zero_le _) hk
    · cases q⟩)
end Go.Proofs.Qxb6603020a.Pl
namespace Go.Proofs.Qxb6603020a
open Go.RowKit Pl

/-- The second pass in memory: 'done' is block d, the stack block d + 1. -/
structure R4 (w wr : World) (n : Nat) (ord : List Nat) (g : Nat) (f : Nat → Nat) (r K : Nat) (rev : Nat → Nat) (d : Nat) (done : Nat → Bool) (sl : List Int) : Prop where
  r1 : R1 w wr n ord g f
  hr : Own wr r 3 (rowN K rev)
  hd : Own wr d 4 (rowB n done)
  hs : Stk wr (d + 1) 3 .i64 n sl
  o1 : w.heap.size + 1 < r
  o2 : g < d
  o3 : r < d
variable {w wr wc w1 : World} {n : Nat} {ord : List Nat} {g : Nat} {f : Nat → Nat} {r K : Nat} {rev : Nat → Nat} {d : Nat} {done : Nat → Bool} {sl : List Int}
theorem R4.alloc (M : R4 w wr n ord g f r K rev d done sl) (o : Obj) : R4 w (wr.alloc o) n ord g f r K rev d done sl := ⟨M.r1.alloc o, M.hr.alloc o, M.hd.alloc o, M.hs.alloc o, M.o1, M.o2, M.o3⟩
theorem R4.mark (M : R4 w wr n ord g f r K rev d done sl) (x : Nat) : R4 w (wr.setCell ⟨d, x, none⟩ (.bool true)) n ord g f r K rev d (upd done x true) sl :=
  have h1 := M.o1
  have h2 := M.o2
  have h3 := M.o3
  ⟨M.r1.other (by show _ < d; omega) (by show d ≠ _; omega) _, M.hr.other (by show d ≠ _; omega) _, ownB_set M.hd x true, M.hs.other (by show d ≠ _; omega) _, h1, h2, h3⟩
theorem R4.push (M : R4 w wr n ord g f r K rev d done sl) {sl' : List Int} (hS : Stk w1 (d + 1) 3 .i64 n sl') (hg : wr.grownBy w1 (some (d + 1))) : R4 w w1 n ord g f r K rev d done sl' := by
  have h1 := M.o1
  have h2 := M.o2
  have h3 := M.o3
  exact ⟨⟨M.r1.ho.grown hg (by omega), M.r1.ha.grown hg (by omega), M.r1.hb.grown hg M.r1.hb.size (fun k e => by simp at e; omega), M.r1.hg⟩, M.hr.grown hg (by omega), M.hd.grown hg (by omega), hS, h1, h2, h3⟩
theorem R4.pop {m : List Int} (M : R4 w wr n ord g f r K rev d done (sl ++ m)) : R4 w wr n ord g f r K rev d done sl := ⟨M.r1, M.hr, M.hd, M.hs.take, M.o1, M.o2, M.o3⟩
theorem R4.start (M : R1 w wc n ord g f) (hr : Own wc r 3 (rowN K rev)) (o1 : w.heap.size + 1 < r) :
    R4 w ((wc.alloc (.cells (madeCells #[.bool false] n) 4)).alloc (.cells (madeCells #[.int .i64 0] n) 3)) n ord g f r K rev wc.heap.size (fun _ => false) [] := by
  refine ⟨(M.alloc _).alloc _, (hr.alloc _).alloc _, (ownB_made wc 4 n).alloc _, ?_, o1, M.ha.lt, hr.lt⟩
  have h := Stk.new (wc.alloc (.cells (madeCells #[.bool false] n) 4)) 3 .i64 n
  simp only [World.size_alloc] at h
  exact h
theorem R4.top {s : List Nat} {v : Nat} (M : R4 w wr n ord g f r K rev d done (cl (s ++ [v]))) : wr.cell? ⟨d + 1, s.length, none⟩ = some (.int .i64 v) := by
  refine M.hs.cell ?_
  rw [cl_append, cl_one]
  have : (cl s ++ [(v : Int)])[(cl s).length]? = some (v : Int) := by simp
  rwa [cl_len] at this
end Go.Proofs.Qxb6603020a
