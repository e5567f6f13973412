/-
  slices.Min (47), succ (46), visit (45).
-/
import Derived.Test.Qxb6603020aRows
import Derived.Test.Qxb6603020aTmem
import Derived.Test.Qxb6603020aLeaf
import Derived.Deep.LoopGhost
import Derived.Deep.DeepCutAuto
import Derived.Lib.JoinLaws
namespace Go.Proofs.Qxb6603020a
open Go.ChangeShapes Go.WideShapes Go.ChangeAt Go.RowKit Pl
set_option linter.unusedVariables false

set_option maxHeartbeats 800000 in
theorem min_any (b o c : Nat) (l : List Nat) (w : World) (hl : 0 < l.length) (hs : l.length ≤ 4096) (hb : ∀ x ∈ l, x < 4096) (hc : ∀ i x, l[i]? = some x → w.cell? ⟨b, o + i, none⟩ = some (.int .i32 (x : Nat))) :
    Calls Try.prog 47 #[.slice (some ⟨b, o, none⟩) l.length c] w fun e w' => (∃ m : Nat, e = .returned (.int .i32 m) ∧ m ∈ l ∧ ∀ x ∈ l, m ≤ x) ∧ w' = w := by
  have HC : Hid (∀ i x, l[i]? = some x → w.cell? ⟨b, o + i, none⟩ = some (.int .i32 (x : Nat))) := hc
  have HB : Hid (∀ x ∈ l, x < 4096) := hb
  have c0 := hc 0 _ (List.getElem?_eq_getElem hl)
  rw [Nat.add_zero] at c0
  obtain ⟨x0, hx0⟩ : ∃ x0, l[0] = x0 := ⟨_, rfl⟩
  have hx0l : l[0] ∈ l := List.getElem_mem _
  rw [hx0] at c0 hx0l
  have HX : Hid (l[0]? = some x0) := (List.getElem?_eq_getElem hl).trans (by rw [hx0])
  have HXL : Hid (x0 ∈ l) := hx0l
  have hx4 := hb x0 hx0l
  clear hc hb hx0 hx0l
  go_enter Try.func47, Try.ntmps47
  go_wp2_with fail
  go_loopg [3, 4] (l.length - 1) (fun z s3 s4 wr => ∃ (m i : Nat), z = l.length - i ∧ 0 < i ∧ i ≤ l.length ∧ s3 = .int .i32 (m : Nat) ∧ s4 = .int .i64 (i : Nat) ∧ m ∈ l ∧ (∀ j x, j < i → l[j]? = some x → m ≤ x) ∧ wr = w)
  case atStart =>
    refine ⟨x0, 1, ?_, by omega, by omega, rfl, rfl, HXL.out, fun j x hj hx => ?_, rfl⟩
    · rfl
    · obtain rfl : j = 0 := by omega
      rw [HX.out] at hx
      have : x0 = x := by simpa using hx
      omega
  case round =>
    obtain ⟨m, i, rfl, hi0, hil, rfl, rfl, hml, hmin, rfl⟩ := hrel
    have HM : Hid (m ∈ l ∧ ∀ j x, j < i → l[j]? = some x → m ≤ x) := ⟨hml, hmin⟩
    have hm4 := HB.out m hml
    clear hml hmin
    by_cases hlt : i < l.length
    · obtain ⟨x, hx⟩ : ∃ x, l[i] = x := ⟨_, rfl⟩
      have hxl : l[i] ∈ l := List.getElem_mem _
      rw [hx] at hxl
      have hxs : l[i]? = some x := by rw [List.getElem?_eq_getElem hlt, hx]
      have c1 := HC.out i x hxs
      have hx4 := HB.out x hxl
      have HX : Hid (l[i]? = some x ∧ x ∈ l) := ⟨hxs, hxl⟩
      clear hx hxl hxs
      by_cases hlt2 : x < m
      · go_wp2_with fail
        go_roundg (l.length - (i + 1))
        case measure => omega
        case rel => exact ⟨x, i + 1, rfl, by omega, by omega, rfl, by go_num, HX.out.2, fun j y hj hy => by
            by_cases e : j = i
            · rw [e, HX.out.1] at hy
              have : x = y := by simpa using hy
              omega
            · have := HM.out.2 j y (by omega) hy
              omega, rfl⟩
      · go_wp2_with fail
        go_roundg (l.length - (i + 1))
        case measure => omega
        case rel => exact ⟨m, i + 1, rfl, by omega, by omega, rfl, by go_num, HM.out.1, fun j y hj hy => by
            by_cases e : j = i
            · rw [e, HX.out.1] at hy
              have : x = y := by simpa using hy
              omega
            · exact HM.out.2 j y (by omega) hy, rfl⟩
    · go_wp2_with fail
      go_ret
      exact ⟨⟨m, rfl, HM.out.1, fun x hx => by
        obtain ⟨j, hj⟩ := List.getElem?_of_mem hx
        have := (List.getElem?_eq_some_iff.1 hj).1
        exact HM.out.2 j x (by omega) hj⟩, rfl⟩

/-- What succ hands back: the row of v's targets. -/
def SuccRet (e : Ending) (ao : Option Addr) (pos : Nat → Nat) (v : Nat) : Prop := ∃ sa sc, e = .returned (.slice sa (degC pos v) sc) ∧ (0 < degC pos v → ∃ bo, ao = some ⟨bo, 0, none⟩ ∧ sa = some ⟨bo, pos v, none⟩)

set_option maxHeartbeats 800000 in
theorem succ_any (gb : Nat) (ao : Option Addr) (lo co : Nat) (ba oa la ca : Nat) (n v : Nat) (pos : Nat → Nat) (w : World) (hF : Fresh ao lo co)
    (g1 : w.cell? ⟨gb, 1, none⟩ = some (.slice ao lo co)) (g3 : w.cell? ⟨gb, 3, none⟩ = some (.slice (some ⟨ba, oa, none⟩) la ca))
    (c1 : w.cell? ⟨ba, oa + v, none⟩ = some (.int .i64 (pos v))) (c2 : w.cell? ⟨ba, oa + (v + 1), none⟩ = some (.int .i64 (pos (v + 1)))) (hn : n ≤ 4096) (hvn : v < n) (hla : n < la) (hla2 : la ≤ 8192) (hlo : lo ≤ 65536)
    (hp : pos v ≤ pos (v + 1)) (hp2 : pos (v + 1) ≤ lo) :
    Calls Try.prog 46 #[.pointer (some ⟨gb, 0, none⟩), .int .i32 v] w fun e w' => SuccRet e ao pos v ∧ Below w.heap.size w w' := by
  have HF : Hid (Fresh ao lo co) := hF
  clear hF
  rcases HF.out with ⟨rfl, rfl, rfl⟩ | ⟨bo, rfl, rfl⟩
  · have e1 : pos v = 0 := by omega
    have e2 : pos (v + 1) = 0 := by omega
    rw [e1] at c1
    rw [e2] at c2
    have HD : Hid (degC pos v = 0) := show degC pos v = 0 by unfold degC; omega
    clear hp hp2 e1 e2
    go_enter Try.func46, Try.ntmps46
    go_wp2_with fail
    go_quiet (fail)
    go_wp2_with fail
    go_ret
    exact ⟨⟨none, 0, by rw [HD.out]; rfl, fun h => absurd h (by rw [HD.out]; omega)⟩, below_drewN (Below.refl _ _) _⟩
  · have HD : Hid (degC pos v = pos (v + 1) - pos v) := rfl
    go_enter Try.func46, Try.ntmps46
    go_wp2_with fail
    go_quiet (fail)
    go_wp2_with fail
    · go_ret
      have e : degC pos v = 0 := by rw [HD.out]; omega
      exact ⟨⟨_, _, by rw [HD.out]; rfl, fun h' => absurd h' (by rw [e]; omega)⟩, below_drewN (Below.refl _ _) _⟩
    · go_ret
      exact ⟨⟨_, _, by rw [HD.out]; rfl, fun _ => ⟨bo, rfl, rfl⟩⟩, below_drewN (Below.refl _ _) _⟩

theorem news_one (w : World) (x : Value) (T : TypeId) : ∀ j u, [x][j]? = some u → (w.alloc (.cells #[x] T)).cell? ((⟨w.heap.size, 0, none⟩ : Addr).add j) = some u := World.news_of_block (heap_alloc_new w _)
theorem news_two_set (w : World) (p : Addr) (x : Value) (a b : Value) (T : TypeId) : ∀ j u, [a, b][j]? = some u → ((w.setCell p x).alloc (.cells #[a, b] T)).cell? ((⟨w.heap.size, 0, none⟩ : Addr).add j) = some u := by
  have h := cell_two_new (w.setCell p x) a b T
  rw [show (w.setCell p x).heap.size = w.heap.size by simp] at h
  exact h
theorem one_cells (k : IntKind) (x : Int) : ∀ u ∈ [Value.int k x], u.oneCell' = true := fun u hu => by simp at hu; subst hu; rfl
theorem two_cells (k k' : IntKind) (x x' : Int) : ∀ u ∈ [Value.int k x, Value.int k' x'], u.oneCell' = true := fun u hu => by simp at hu; rcases hu with rfl | rfl <;> rfl
theorem TM.afterS {w wr w1 : World} {n : Nat} {idx low : Nat → Nat} {on : Nat → Bool} {stk gr : List Nat} {nx : Nat → Nat} {vis : Nat} {sv cv : Value} (M : TM w wr n idx low on stk gr nx vis sv cv) (hg : wr.grownBy w1 sv.ownBlock) :
    w1.cell? ⟨w.heap.size + 1 + 1 + 1 + 1 + 1 + 1, 0, none⟩ = some sv ∧ w1.frozen? ⟨w.heap.size + 1 + 1 + 1 + 1 + 1 + 1, 0, none⟩ = false ∧ w1.cell? ⟨w.heap.size + 1 + 1 + 1 + 1 + 1 + 1 + 1, 0, none⟩ = some cv :=
  have h := M.bs.grownO hg (fun e => M.sb (by omega) e.symm)
  ⟨own1_cell h, h.free 0, own1_cell (M.bc.grownO hg (fun e => M.sb (by omega) e.symm))⟩
theorem TM.afterC {w wr w1 : World} {n : Nat} {idx low : Nat → Nat} {on : Nat → Bool} {stk gr : List Nat} {nx : Nat → Nat} {vis : Nat} {sv cv : Value} (M : TM w wr n idx low on stk gr nx vis sv cv) (hg : wr.grownBy w1 cv.ownBlock) :
    w1.cell? ⟨w.heap.size + 1 + 1 + 1 + 1 + 1 + 1 + 1, 0, none⟩ = some cv ∧ w1.frozen? ⟨w.heap.size + 1 + 1 + 1 + 1 + 1 + 1 + 1, 0, none⟩ = false :=
  have h := M.bc.grownO hg (fun e => M.cb (by omega) e.symm)
  ⟨own1_cell h, h.free 0⟩
theorem Try.info92 : (Try.prog.info? 92).map (fun i => (i.zero, i.size, i.bytes)) = some (some (.agg #[.int .i32 0, .int .i64 0]), 2, 16) := by kernel_rfl

set_option maxHeartbeats 1600000 in
theorem visit_any (W w : World) (n : Nat) (idx low : Nat → Nat) (on : Nat → Bool) (stk gr : List Nat) (nx : Nat → Nat) (vis : Nat) (sv cv : Value) (v : Nat) (M : TM W w n idx low on stk gr nx vis sv cv)
    (hn : n ≤ 4096) (hv : v < n) (hvg : v ∉ gr) (hvis : vis < n) (hs : stk.length ≤ n) (hg : gr.length ≤ n) :
    Calls Try.prog 45 #[.int .i32 v, .pointer (some ⟨W.heap.size + 1 + 1 + 1 + 1 + 1 + 1 + 1 + 1, 0, none⟩), .pointer (some ⟨W.heap.size + 1, 0, none⟩), .pointer (some ⟨W.heap.size + 1 + 1 + 1, 0, none⟩), .pointer (some ⟨W.heap.size + 1 + 1 + 1 + 1 + 1, 0, none⟩), .pointer (some ⟨W.heap.size + 1 + 1 + 1 + 1 + 1 + 1, 0, none⟩), .pointer (some ⟨W.heap.size + 1 + 1 + 1 + 1 + 1 + 1 + 1, 0, none⟩)] w fun e w' =>
      e = .returned (.tuple #[]) ∧ ∃ sv' cv', TM W w' n (upd idx v (vis + 1)) (upd low v (vis + 1)) (upd on v true) (stk ++ [v]) (gr ++ [v]) (upd nx v 0) (vis + 1) sv' cv' := by
  have bv := own1_cell M.bv
  have fv := M.bv.free 0
  have HM : Hid (TM W w n idx low on stk gr nx vis sv cv) := M
  clear M
  obtain ⟨k, hk⟩ : ∃ k, vis + 1 = k := ⟨_, rfl⟩
  obtain ⟨i1, hi1, hz1, hs1, hb1⟩ := info_parts Try.info21'
  have HI1 : Hid (Try.prog.info? 21 = some i1 ∧ i1.zero = some (.int .i32 0) ∧ i1.size = 1 ∧ i1.bytes = 4) := ⟨hi1, hz1, hs1, hb1⟩
  obtain ⟨i2, hi2, hz2, hs2, hb2⟩ := info_parts Try.info92
  have HI2 : Hid (Try.prog.info? 92 = some i2 ∧ i2.zero = some (.agg #[.int .i32 0, .int .i64 0]) ∧ i2.size = 2 ∧ i2.bytes = 16) := ⟨hi2, hz2, hs2, hb2⟩
  clear hi1 hz1 hs1 hb1 hi2 hz2 hs2 hb2
  have ek : (vis : Int) + 1 = (k : Int) := by omega
  rw [hk]
  go_enter Try.func45, Try.ntmps45
  go_wp2_with fail
  have M1 := HM.out.setV k
  clear HM bv fv ek hk
  generalize w.setCell _ _ = w1 at M1 ⊢
  have bv := own1_cell M1.bv
  have bi := own1_cell M1.bi
  have bl := own1_cell M1.bl
  have bo := own1_cell M1.bo
  have ci := ownN_cell M1.hi hv
  have cl := ownN_cell M1.hl hv
  have co := ownB_cell M1.ho hv
  have fi := M1.hi.free v
  have fl_ := M1.hl.free v
  have fo := M1.ho.free v
  have HM : Hid (TM W w1 n idx low on stk gr nx k sv cv) := M1
  clear M1
  go_region
  have M2 := (((HM.out.setI v k).setL v k).setO v true).drew
  clear HM bv bi bl bo ci cl co fi fl_ fo
  generalize World.drew _ = w2 at M2 ⊢
  have cs2 := own1_cell M2.bs
  have hW := M2.bv.lt
  have M3 := M2.alloc (.cells #[.int .i32 (v : Int)] 21)
  clear M2
  have ml1 : stk.length + 1 ≤ maxLen := by unfold maxLen; omega
  have ml2 : gr.length + 1 ≤ maxLen := by unfold maxLen; omega
  have HL : Hid ((stk.length + 1 ≤ maxLen ∧ gr.length + 1 ≤ maxLen) ∧ (stk.length + 1) * 4 ≤ 140737488355328 ∧ (gr.length + 1) * 16 ≤ 140737488355328) := ⟨⟨ml1, ml2⟩, by omega, by omega⟩
  have HB1 : Hid (W.heap.size + 9 ≤ (w2.alloc (.cells #[.int .i32 (v : Int)] 21)).heap.size) := M3.bv.lt
  have HVG : Hid (v ∉ gr) := hvg
  have HM3 : Hid (TM W (w2.alloc (.cells #[.int .i32 (v : Int)] 21)) n (upd idx v k) (upd low v k) (upd on v true) stk gr nx k sv cv) := M3
  clear ml1 ml2 M3 hvg
  go_wp2_with (first
    | (at_builtin; refine wpList_append_lies _ rfl (.tmp 21) (.tmp 23) 37 rfl (W.heap.size + 9) 21 i1 (.int .i32 0) 1 4 Try.underlying37 HI1.out.1 HI1.out.2.1 HI1.out.2.2.1 HI1.out.2.2.2 rfl Nat.one_pos sv stk.length (sl stk) rfl HM3.out.rs ⟨w2.heap.size, 0, none⟩ 1 1 [.int .i32 (v : Int)] rfl rfl (news_one w2 _ _) (one_cells _ _) Nat.one_pos HL.out.1.1 HL.out.2.1 HB1.out _ rfl ?_; intro g cap w3 hown hgrow hat hlt; obtain ⟨s1, s2, s3⟩ := HM3.out.afterS hgrow; have M4 := HM3.out.pushS (v := v) rfl hown hgrow hat; have HM4 : Hid (TM W (w3.setCell ⟨W.heap.size + 1 + 1 + 1 + 1 + 1 + 1, 0, none⟩ (.slice (some ⟨g, 0, none⟩) (stk.length + 1) cap)) n (upd idx v k) (upd low v k) (upd on v true) (stk ++ [v]) gr nx k (.slice (some ⟨g, 0, none⟩) (stk.length + 1) cap) cv) := M4; clear M4 hown hgrow hat hlt)
    | (at_builtin; refine wpList_append_lies _ rfl (.tmp 25) (.tmp 28) 90 rfl (W.heap.size + 9) 92 i2 (.agg #[.int .i32 0, .int .i64 0]) 2 16 Try.underlying90 HI2.out.1 HI2.out.2.1 HI2.out.2.2.1 HI2.out.2.2.2 rfl Nat.two_pos cv gr.length (fl nx gr) rfl (HM4.out.alloc _).rc _ 1 1 [.int .i32 (v : Int), .int .i64 0] rfl rfl (news_two_set _ _ _ _ _ _) (two_cells _ _ _ _) Nat.one_pos HL.out.1.2 HL.out.2.2 (HM4.out.alloc _).bv.lt _ rfl ?_; intro g' cap' w5 hown' hgrow' hat' hlt'; obtain ⟨r1, r2⟩ := (HM4.out.alloc _).afterC hgrow'; have M6 := (HM4.out.alloc _).pushC (v := v) rfl HVG.out hown' hgrow' hat'; clear hown' hgrow' hat' hlt'))
  go_end0
  exact ⟨rfl, _, _, M6⟩
end Go.Proofs.Qxb6603020a
