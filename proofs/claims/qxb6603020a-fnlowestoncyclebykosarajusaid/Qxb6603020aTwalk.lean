/-
  lowestOnCycle (35).
-/
import Derived.Test.Qxb6603020aTleaf
import Derived.Test.Qxb6603020aTstep
import Derived.Test.Qxb6603020aGm
import Derived.Deep.CutBlock
namespace Go.Proofs.Qxb6603020a
open Go.ChangeShapes Go.WideShapes Go.ChangeAt Go.RowKit Pl
set_option linter.unusedVariables false

/-- It returns the lowest node on a cycle, or -1. -/
def LowRet (e : Ending) (E : Nat → Nat → Prop) (n : Nat) : Prop := ∃ r : Int, e = .returned (.int .i32 r) ∧ Low E (fun x => x < n) r

set_option maxRecDepth 20000 in
set_option maxHeartbeats 1600000 in
theorem tarjan_any (gb n : Nat) (at_ : Option Addr) (ct : Nat) (ao : Option Addr) (lo co : Nat) (aa : Option Addr) (la ca : Nat) (out pos : Nat → Nat) (w : World) (hG : GM w w.heap.size ao lo aa la n out pos) (hF : Fresh ao lo co)
    (g0 : w.cell? ⟨gb, 0, none⟩ = some (.slice at_ n ct)) (g1 : w.cell? ⟨gb, 1, none⟩ = some (.slice ao lo co)) (g3 : w.cell? ⟨gb, 3, none⟩ = some (.slice aa la ca)) :
    Calls Try.prog 35 #[.pointer (some ⟨gb, 0, none⟩)] w fun e w' => LowRet e (EC n out pos) n ∧ Below w.heap.size w w' := by
  obtain ⟨n1, n2, n3⟩ := hG.small
  have mkb := fun wx => run_make_row' (P := Try.prog) 23 4 (.bool false) 1 Try.underlying23 Try.info4 rfl .i64 .i64 n (by omega) (by omega) wx
  have mki := fun wx => run_make_row' (P := Try.prog) 22 3 (.int .i64 0) 8 Try.underlying22 Try.info3' rfl .i64 .i64 n (by omega) (by omega) wx
  have HG : Hid (GM w w.heap.size ao lo aa la n out pos) := hG
  have HF : Hid (Fresh ao lo co) := hF
  have hgb := lt_of_cell g0
  clear hG hF
  go_enter Try.func35, Try.ntmps35
  go_upto_block 0 with fail
  clear mkb mki
  go_wp2_with fail
  go_loopg [10, 38] n (fun z s10 s38 wr => ∃ (r : Nat) (lw : Int) (idx low : Nat → Nat) (on : Nat → Bool) (nx : Nat → Nat) (vis : Nat) (sv cv : Value), z = n - r ∧ r ≤ n ∧ s10 = .int .i32 lw ∧ s38 = .int .i32 (r : Nat) ∧ TN n out pos idx low on [] [] nx vis lw r ∧ TM w wr n idx low on [] [] nx vis sv cv)
  case atStart => exact ⟨0, -1, _, _, _, _, 0, _, _, rfl, Nat.zero_le _, rfl, rfl, TN.start, TM.start w n⟩
  case round =>
    obtain ⟨r, lw, idx, low, on, nx, vis, sv, cv, rfl, hrn, rfl, rfl, hT, hM⟩ := hrel
    by_cases hlt : r < n
    · have ci := ownN_cell hM.hi hlt
      have bi := own1_cell hM.bi
      have HT : Hid (TN n out pos idx low on [] [] nx vis lw r) := hT
      have HM : Hid (TM w wr n idx low on [] [] nx vis sv cv) := hM
      obtain ⟨hl1, hl2⟩ := hT.range
      clear hT hM
      by_cases hi0 : idx r = 0
      · rw [hi0] at ci
        have HI0 : Hid (idx r = 0) := hi0
        have hvl := HT.out.vis_lt hlt hi0
        clear hi0
        go_wp2_with (first | (go_at_call 45; refine (visit_any w _ n idx low on [] [] nx vis sv cv r HM.out n1 hlt (by simp) hvl (by simp) (by simp)).mono ?_; rintro e w2 ⟨rfl, sv2, cv2, hM2⟩))
        have HT2 : Hid (TN n out pos (upd idx r (vis + 1)) (upd low r (vis + 1)) (upd on r true) ([] ++ [r]) ([] ++ [r]) (upd nx r 0) (vis + 1) lw (r + 1)) := (HT.out.visit hlt HI0.out (upd nx r 0) (upd_same _ _ _) (.inl ⟨rfl, rfl⟩)).root (by rw [upd_same]; omega)
        have HM2 : Hid (TM w w2 n (upd idx r (vis + 1)) (upd low r (vis + 1)) (upd on r true) ([] ++ [r]) ([] ++ [r]) (upd nx r 0) (vis + 1) sv2 cv2) := hM2
        clear hM2 HT HM HI0 ci bi hvl hl1 hl2
        go_loopg [10] (mu n (degC pos) (vs (upd idx r (vis + 1))) ([] ++ [r]) (upd nx r 0)) (fun z s10 wr => ∃ (lw : Int) (idx low : Nat → Nat) (on : Nat → Bool) (stk gr : List Nat) (nx : Nat → Nat) (vis : Nat) (sv cv : Value), z = mu n (degC pos) (vs idx) gr nx ∧ s10 = .int .i32 lw ∧ TN n out pos idx low on stk gr nx vis lw (r + 1) ∧ TM w wr n idx low on stk gr nx vis sv cv)
        case atStart => exact ⟨lw, _, _, _, _, _, _, _, _, _, rfl, rfl, HT2.out, HM2.out⟩
        case round =>
          clear HT2 HM2
          obtain ⟨lw, idx, low, on, stk, gr, nx, vis, sv, cv, rfl, rfl, hT, hM⟩ := hrel
          have HT : Hid (TN n out pos idx low on stk gr nx vis lw (r + 1)) := hT
          have HM : Hid (TM w wr n idx low on stk gr nx vis sv cv) := hM
          rcases List.eq_nil_or_concat gr with rfl | ⟨pre, v, rfl⟩
          · obtain ⟨a, c, rfl⟩ := hM.lenC
            have bc := own1_cell hM.bc
            have e := hT.ti.empty
            subst e
            clear hT hM
            go_wp2_with fail
            go_roundg (n - (r + 1))
            case measure => omega
            case rel => exact ⟨r + 1, lw, idx, low, on, nx, vis, _, _, rfl, by omega, rfl, by go_num, HT.out, HM.out⟩
          · rw [List.concat_eq_append] at HT HM hT hM
            obtain ⟨t1, t2, t3, t4, t5, t6, t7⟩ := hT.top
            obtain ⟨m, hm⟩ : ∃ m, pre.length = m := ⟨_, rfl⟩
            have hl : (pre ++ [v]).length = m + 1 := by rw [← hm]; simp
            obtain ⟨g, cap, rfl, hg9, hcap⟩ := hM.formC (by rw [hl]; omega)
            rw [hl] at HM hM hcap
            obtain ⟨tc1, tc2, tc3⟩ := hM.topC (by rw [hm])
            rw [hm] at tc1 tc2 tc3 t5
            have HPM : Hid (pre.length = m) := hm
            have bc := own1_cell hM.bc
            obtain ⟨ba, oa, rfl, hba, hat⟩ := HG.out.at_ (by omega)
            obtain ⟨hla, hlo⟩ := HG.out.lens (by omega)
            have hc1 := (hM.hb.cell (p := ⟨ba, oa + v, none⟩) hba).trans (hat v (by omega))
            have hc2 := (hM.hb.cell (p := ⟨ba, oa + (v + 1), none⟩) hba).trans (hat (v + 1) (by omega))
            have hg1 := (hM.hb.cell (p := ⟨gb, 1, none⟩) hgb).trans g1
            have hg3 := (hM.hb.cell (p := ⟨gb, 3, none⟩) hgb).trans g3
            have hp1 := HG.out.csr.mono v t1
            have hpn := HG.out.csr.le (show v + 1 ≤ n by omega) (Nat.le_refl n)
            have hp0 := HG.out.csr.le (Nat.zero_le v) (show v ≤ n by omega)
            clear hT hM hat hl hm
            by_cases hd : nx v < degC pos v
            · have hde : pos v + nx v < pos (v + 1) := by unfold degC at hd; omega
              have HD : Hid (nx v < degC pos v) := hd
              rcases HF.out with ⟨rfl, h0, _⟩ | ⟨bo, rfl, rfl⟩
              · omega
              obtain ⟨b1, o1, hbo', hbo, hoc⟩ := HG.out.out_ (by omega) (pos v + nx v) (by omega) (by omega)
              simp only [Option.some.injEq, Addr.mk.injEq, and_true] at hbo'
              obtain ⟨rfl, rfl⟩ := hbo'
              rw [Nat.zero_add] at hoc
              have hxn := HG.out.csr.tg (pos v + nx v) (by omega) (by omega)
              have HX : Hid (∃ x, out (pos v + nx v) = x) := ⟨_, rfl⟩
              obtain ⟨x, hx⟩ := HX.out
              rw [hx] at hxn hoc
              have HX : Hid (tgtC out pos v (nx v) = x) := hx
              have HOC : Hid (w.cell? ⟨bo, pos v + nx v, none⟩ = some (.int .i32 (x : Int))) := hoc
              have hdg : degC pos v = pos (v + 1) - pos v := rfl
              clear hx hoc
              go_upto_region 18 with (first | (go_at_call 46; refine (succ_any gb _ co co ba oa la ca n v pos _ HF.out hg1 hg3 hc1 hc2 n1 t1 hla n3 n2 hp1 (by omega)).mono ?_; rintro e w2 ⟨⟨sa, sc, rfl, hsa⟩, hb2⟩; obtain ⟨bo', hbe, rfl⟩ := hsa (by omega); simp only [Option.some.injEq, Addr.mk.injEq, and_true] at hbe; subst hbe; have M2 := HM.out.below hb2; obtain ⟨td1, td2, td3⟩ := M2.topC (by rw [HPM.out]); rw [HPM.out] at td1 td2 td3; have hoc2 := (M2.hb.cell (p := ⟨bo, pos v + nx v, none⟩) hbo).trans HOC.out; have HM2 : Hid (TM w w2 n idx low on stk (pre ++ [v]) nx vis sv (.slice (some ⟨g, 0, none⟩) (m + 1) cap)) := M2; clear hb2 M2))
              go_quiet (fail)
              go_upto_region 20 with fail
              have M3 := (HM2.out.drewN nq).setN (by rw [HPM.out]) t4 (nx v + 1)
              rw [HPM.out, Int.natCast_add, Int.natCast_one] at M3
              clear HM2 td1 td2 td3 hoc2 tc1 tc2 tc3 bc hc1 hc2 hg1 hg3 hp1 hpn hp0 HM hdg
              generalize World.setCell _ _ _ = w3 at M3 ⊢
              have HM3 : Hid (TM w w3 n idx low on stk (pre ++ [v]) (upd nx v (nx v + 1)) vis sv (.slice (some ⟨g, 0, none⟩) (m + 1) cap)) := M3
              have bi := own1_cell M3.bi
              have ci := ownN_cell M3.hi hxn
              clear M3
              by_cases hi0 : idx x = 0
              · rw [hi0] at ci
                have HI0 : Hid (idx x = 0) := hi0
                have hvl := HT.out.vis_lt hxn hi0
                have hxg := HT.out.open_not hi0
                have hvx : v ≠ x := fun e => by rw [e] at t7; omega
                have hgl : (pre ++ [v]).length ≤ n := by rw [List.length_append, HPM.out]; exact t5
                clear hi0
                go_wp2_with (first | (go_at_call 45; refine (visit_any w _ n idx low on stk (pre ++ [v]) (upd nx v (nx v + 1)) vis sv _ x HM3.out n1 hxn hxg hvl t6 hgl).mono ?_; rintro e w5 ⟨rfl, sv5, cv5, hM5⟩))
                have hpx : x ∉ pre := fun q => hxg (List.mem_append.2 (.inl q))
                go_roundg (mu n (degC pos) (vs (upd idx x (vis + 1))) (pre ++ [v] ++ [x]) (upd (upd nx v (nx v + 1)) x 0))
                case measure => rw [vs_upd]; first | exact mu_push hxn (vs_false HI0.out) t4 hpx hvx HD.out | (simp only [List.concat_eq_append]; exact mu_push hxn (vs_false HI0.out) t4 hpx hvx HD.out)
                case rel => exact ⟨lw, _, _, _, _, _, _, _, _, _, rfl, rfl, HT.out.visit hxn HI0.out _ (upd_same _ _ _) (.inr ⟨pre, v, rfl, HD.out, HX.out, hvx, rfl⟩), hM5⟩
              · have hi0' : (idx x : Int) ≠ 0 := by omega
                have HI0 : Hid (idx x ≠ 0) := hi0
                have bo_ := own1_cell HM3.out.bo
                have co_ := ownB_cell HM3.out.ho hxn
                clear hi0
                cases hox : on x with
                | true =>
                  have HOX : Hid (on x = true) := hox
                  rw [hox] at co_
                  have bl := own1_cell HM3.out.bl
                  have cl := ownN_cell HM3.out.hl t1
                  have fl_ := HM3.out.hl.free v
                  clear hox
                  by_cases hmin : idx x < low v
                  · go_wp2_with fail
                    go_region
                    go_wp2_with fail
                    have hlm : idx x = min (low v) (idx x) := by omega
                    go_roundg (mu n (degC pos) (vs idx) (pre ++ [v]) (upd nx v (nx v + 1)))
                    case measure => first | exact mu_next t4 HD.out | (simp only [List.concat_eq_append]; exact mu_next t4 HD.out)
                    case rel => exact ⟨lw, idx, _, on, stk, _, _, vis, _, _, rfl, rfl, HT.out.lower HD.out HX.out hxn HOX.out hlm, (HM3.out.setL v (idx x)).drew⟩
                  · go_wp2_with fail
                    go_region
                    go_wp2_with fail
                    have hlm : low v = min (low v) (idx x) := by omega
                    go_roundg (mu n (degC pos) (vs idx) (pre ++ [v]) (upd nx v (nx v + 1)))
                    case measure => first | exact mu_next t4 HD.out | (simp only [List.concat_eq_append]; exact mu_next t4 HD.out)
                    case rel => exact ⟨lw, idx, _, on, stk, _, _, vis, _, _, rfl, rfl, HT.out.lower HD.out HX.out hxn HOX.out hlm, (HM3.out.setL v (low v)).drew⟩
                | false =>
                  have HOX : Hid (on x = false) := hox
                  rw [hox] at co_
                  clear hox
                  go_wp2_with fail
                  go_roundg (mu n (degC pos) (vs idx) (pre ++ [v]) (upd nx v (nx v + 1)))
                  case measure => first | exact mu_next t4 HD.out | (simp only [List.concat_eq_append]; exact mu_next t4 HD.out)
                  case rel => exact ⟨lw, idx, low, on, stk, _, _, vis, _, _, rfl, rfl, HT.out.next HD.out HX.out hxn HI0.out HOX.out, HM3.out⟩
            · have HND : Hid (nx v = degC pos v) := (by omega : nx v = degC pos v)
              go_upto_if 125 with (first | (go_at_call 46; refine (succ_any gb ao lo co ba oa la ca n v pos _ HF.out hg1 hg3 hc1 hc2 n1 t1 hla n3 n2 hp1 (by omega)).mono ?_; rintro e w2 ⟨⟨sa, sc, rfl, hsa⟩, hb2⟩; have M2 := HM.out.below hb2; obtain ⟨td1, td2, td3⟩ := M2.topC (by rw [HPM.out]); rw [HPM.out] at td1 td2 td3; have bc2 := own1_cell M2.bc; have fc2 := M2.bc.free 0; have HM2 : Hid (TM w w2 n idx low on stk (pre ++ [v]) nx vis sv (.slice (some ⟨g, 0, none⟩) (m + 1) cap)) := M2; clear hsa hb2 M2))
              have M3 := HM2.out.popC (by rw [HPM.out])
              rw [HPM.out] at M3
              clear HM2 td1 td2 td3 bc2 fc2 tc1 tc2 tc3 bc hc1 hc2 hg1 hg3 hp1 hpn hp0 hd HM
              generalize World.setCell w2 _ _ = w3 at M3 ⊢
              have HM3 : Hid (TM w w3 n idx low on stk pre nx vis sv (.slice (some ⟨g, 0, none⟩) m cap)) := M3
              clear M3
              go_cut [] (fun wx => ∃ low' : Nat → Nat, TN n out pos idx low' on stk (pre ++ [v]) nx vis lw (r + 1) ∧ TM w wx n idx low' on stk pre nx vis sv (.slice (some ⟨g, 0, none⟩) m cap) ∧ (∀ pre' p, pre = pre' ++ [p] → low' p ≤ low' v))
              case first =>
                rcases List.eq_nil_or_concat pre with rfl | ⟨pre', p, rfl⟩
                · obtain rfl : 0 = m := HPM.out
                  go_wp2_with fail
                  go_meet
                  case rel => exact ⟨low, HT.out, HM3.out, fun pre' p h => by simp at h⟩
                · rw [List.concat_eq_append] at HT HM3
                  obtain ⟨k, rfl, hk⟩ : ∃ k, m = k + 1 ∧ pre'.length = k := ⟨pre'.length, by rw [← HPM.out]; simp, rfl⟩
                  have HKK : Hid (pre'.length = k) := hk
                  obtain ⟨tc1, tc2, tc3⟩ := HM3.out.topC (by rw [hk])
                  rw [hk] at tc1 tc2 tc3
                  clear t4 hk
                  have bc := own1_cell HM3.out.bc
                  have bl := own1_cell HM3.out.bl
                  obtain ⟨hvp, hpn⟩ := HT.out.ne2
                  have cp := ownN_cell HM3.out.hl hpn
                  have cv := ownN_cell HM3.out.hl t1
                  have fp := HM3.out.hl.free p
                  by_cases hmin : low v < low p
                  · go_wp2_with fail
                    go_region
                    go_wp2_with fail
                    go_meet
                    case rel =>
                      have M := (HM3.out.setL p (low v)).drew
                      have hlm : low v = min (low p) (low v) := by omega
                      rw [List.concat_eq_append]
                      refine ⟨upd low p (low v), HT.out.hand hlm, M, fun q' q hq => ?_⟩
                      have e := List.append_inj' hq rfl
                      obtain rfl : p = q := by simpa using e.2
                      rw [upd_same, upd_other _ _ hvp]
                      exact Nat.le_refl _
                  · go_wp2_with fail
                    go_region
                    go_wp2_with fail
                    go_meet
                    case rel =>
                      have M := (HM3.out.setL p (low p)).drew
                      have hlm : low p = min (low p) (low v) := by omega
                      rw [List.concat_eq_append]
                      refine ⟨upd low p (low p), HT.out.hand hlm, M, fun q' q hq => ?_⟩
                      have e := List.append_inj' hq rfl
                      obtain rfl : p = q := by simpa using e.2
                      rw [upd_same, upd_other _ _ hvp]
                      omega
              case rest =>
                obtain ⟨low', hT, hM, hlp⟩ := hcut
                have HT5 : Hid (TN n out pos idx low' on stk (pre ++ [v]) nx vis lw (r + 1)) := hT
                have HM5 : Hid (TM w wc n idx low' on stk pre nx vis sv (.slice (some ⟨g, 0, none⟩) m cap)) := hM
                have HLP : Hid (∀ pre' p, pre = pre' ++ [p] → low' p ≤ low' v) := hlp
                have bl := own1_cell hM.bl
                have bi := own1_cell hM.bi
                have cl := ownN_cell hM.hl t1
                have ci := ownN_cell hM.hi t1
                obtain ⟨s, t, rfl, hvt, hsn⟩ := hT.split
                have hL : (s ++ v :: t).length = s.length + (t.length + 1) := by simp
                obtain ⟨gs, cs, rfl, hgs, hcs⟩ := hM.formS (by omega)
                rw [hL] at HM5 hM hcs t6
                have bs := own1_cell hM.bs
                have HCS : Hid (∀ i x : Nat, (s ++ v :: t)[i]? = some x → wc.cell? ⟨gs, i, none⟩ = some (.int .i32 (x : Int))) := fun i x hi => hM.cellS (by rw [hL]) hi
                have HSN : Hid (v ∉ t ∧ ∀ x ∈ s ++ v :: t, x < n) := ⟨hvt, hsn⟩
                obtain ⟨hw1, hw2⟩ := hT.range
                clear hT hM hlp hL HM3 HT t2 hsn hvt
                go_wp2_with fail
                go_quiet (fail)
                by_cases heq : low' v = idx v
                · have M6 := HM5.out.drewN nq
                  have HEQ : Hid (low' v = idx v) := heq
                  have heq' : (low' v : Int) = (idx v : Int) := by omega
                  go_upto_region 30 with fail
                  clear HCS HM5 bs bl bi cl ci heq heq'
                  generalize World.drewN wc nq = w6 at M6 ⊢
                  have bs := own1_cell M6.bs
                  have HCS : Hid (∀ i x : Nat, (s ++ v :: t)[i]? = some x → w6.cell? ⟨gs, i, none⟩ = some (.int .i32 (x : Int))) := fun i x hi => M6.cellS (by simp) hi
                  have HM6 : Hid (TM w w6 n idx low' on (s ++ v :: t) pre nx vis (.slice (some ⟨gs, 0, none⟩) (s.length + (t.length + 1)) cs) (.slice (some ⟨g, 0, none⟩) m cap)) := M6
                  clear M6
                  go_wp2_with fail
                  go_loopg [19] t.length (fun z s19 wr => ∃ k : Nat, k = z ∧ k ≤ t.length ∧ s19 = .int .i64 ((s.length + k : Nat) : Int) ∧ wr = w6)
                  case atStart => exact ⟨t.length, rfl, Nat.le_refl _, by go_num, rfl⟩
                  case round =>
                    obtain ⟨k, rfl, hkt, rfl, rfl⟩ := hrel
                    cases k with
                    | succ k =>
                      have HX : Hid (∃ x, t[k]? = some x) := ⟨t[k]'(by omega), List.getElem?_eq_getElem _⟩
                      obtain ⟨x, hx⟩ := HX.out
                      have hxm := List.mem_of_getElem? hx
                      have hxv : x ≠ v := fun e => HSN.out.1 (by rw [← e]; exact hxm)
                      have hxn := HSN.out.2 x (by simp [hxm])
                      have hxi : (s ++ v :: t)[s.length + (k + 1)]? = some x := by
                        rw [List.getElem?_append_right (by omega), show s.length + (k + 1) - s.length = k + 1 by omega]
                        exact hx
                      have hxc := HCS.out _ x hxi
                      have hxv' : (x : Int) ≠ (v : Int) := by omega
                      clear hx hxm hxi hxv
                      go_wp2_with fail
                      go_roundg k
                      case measure => omega
                      case rel => exact ⟨k, rfl, by omega, by go_num, rfl⟩
                    | zero =>
                      have hvc := HCS.out s.length v (by simp)
                      go_wp2_with fail
                      go_loopg [170] (t.length + 1) (fun z s170 wr => ∃ (k : Nat) (on' : Nat → Bool), z = t.length + 1 - k ∧ k ≤ t.length + 1 ∧ s170 = .int .i64 (k : Nat) ∧ TM w wr n idx low' on' (s ++ v :: t) pre nx vis (.slice (some ⟨gs, 0, none⟩) (s.length + (t.length + 1)) cs) (.slice (some ⟨g, 0, none⟩) m cap) ∧ (∀ x, x < n → (on' x = true ↔ on x = true ∧ x ∉ (v :: t).take k)))
                      case atStart => exact ⟨0, on, rfl, Nat.zero_le _, rfl, HM6.out, fun x _ => by simp⟩
                      case round =>
                        clear HM6 HCS bs hvc
                        obtain ⟨k, on', rfl, hkt, rfl, hM, hon⟩ := hrel
                        have HM7 : Hid (TM w wr n idx low' on' (s ++ v :: t) pre nx vis (.slice (some ⟨gs, 0, none⟩) (s.length + (t.length + 1)) cs) (.slice (some ⟨g, 0, none⟩) m cap)) := hM
                        have HON : Hid (∀ x, x < n → (on' x = true ↔ on x = true ∧ x ∉ (v :: t).take k)) := hon
                        clear hon
                        by_cases hlt2 : k < t.length + 1
                        · have HX : Hid (∃ x, (v :: t)[k]? = some x) := ⟨(v :: t)[k]'hlt2, List.getElem?_eq_getElem _⟩
                          obtain ⟨x, hx⟩ := HX.out
                          have hxm := List.mem_of_getElem? hx
                          have hxn := HSN.out.2 x (List.mem_append.2 (.inr hxm))
                          have hxi : (s ++ v :: t)[s.length + k]? = some x := by
                            rw [List.getElem?_append_right (by omega), show s.length + k - s.length = k by omega]
                            exact hx
                          have hxc := hM.cellS (by simp) hxi
                          have bo := own1_cell hM.bo
                          have cx := ownB_cell hM.ho hxn
                          have fx := hM.ho.free x
                          have HX : Hid ((v :: t)[k]? = some x) := hx
                          clear hx hxm hxi hM
                          go_wp2_with fail
                          go_roundg (t.length + 1 - (k + 1))
                          case measure => omega
                          case rel =>
                            refine ⟨k + 1, upd on' x false, rfl, by omega, by go_num, HM7.out.setO x false, fun y hy => ?_⟩
                            rw [List.take_add_one, HX.out]
                            by_cases e : y = x
                            · rw [e, upd_same]; simp
                            · rw [upd_other _ _ e, HON.out y hy]; simp [e]
                        · obtain rfl : k = t.length + 1 := by omega
                          have bs := own1_cell hM.bs
                          have fs := hM.bs.free 0
                          have HCM : Hid (∀ i x, (v :: t)[i]? = some x → wr.cell? ⟨gs, s.length + i, none⟩ = some (.int .i32 (x : Nat))) := fun i x hi => hM.cellS (by simp) (by
                            rw [List.getElem?_append_right (by omega), show s.length + i - s.length = i by omega]
                            exact hi)
                          have HON2 : Hid (∀ x, x < n → (on' x = true ↔ on x = true ∧ x ∉ v :: t)) := fun x hx => by
                            have := HON.out x hx
                            rwa [List.take_of_length_le (by simp)] at this
                          clear hM HON
                          go_upto_region 40 with (first | (go_at_call 47; refine (min_any gs s.length (cs - s.length) (v :: t) _ (by simp) (by show t.length + 1 ≤ 4096; omega) (fun x hx => by have := HSN.out.2 x (List.mem_append.2 (.inr hx)); omega) HCM.out).mono ?_; rintro e w8 ⟨⟨mm, rfl, hmm, hmin⟩, rfl⟩; have HMM : Hid (mm ∈ v :: t ∧ ∀ x ∈ v :: t, mm ≤ x) := ⟨hmm, hmin⟩; clear hmm hmin))
                          have hmn : mm < n := HSN.out.2 mm (List.mem_append.2 (.inr HMM.out.1))
                          have HCO : Hid (∀ lo' : Int, lo' = (if 1 < (v :: t).length ∧ (lw < 0 ∨ (mm : Int) < lw) then (mm : Int) else lw) → TN n out pos idx low' on' s pre nx vis lo' (r + 1)) := fun lo' h => HT5.out.comp HND.out HEQ.out HMM.out.1 HMM.out.2 h HON2.out
                          have HPS := HM7.out.popS rfl
                          have ht1 : (v :: t).length = t.length + 1 := rfl
                          by_cases hq1 : 0 < t.length
                          · by_cases hq2 : lw < 0
                            · go_wp2_with fail
                              go_roundg (mu n (degC pos) (vs idx) pre nx)
                              case measure => first | exact mu_pop | (simp only [List.concat_eq_append]; exact mu_pop)
                              case rel => exact ⟨mm, idx, low', on', s, pre, nx, vis, _, _, rfl, rfl, HCO.out _ (by rw [if_pos ⟨by omega, .inl hq2⟩]), HPS⟩
                            · by_cases hq3 : (mm : Int) < lw
                              · go_wp2_with fail
                                go_roundg (mu n (degC pos) (vs idx) pre nx)
                                case measure => first | exact mu_pop | (simp only [List.concat_eq_append]; exact mu_pop)
                                case rel => exact ⟨mm, idx, low', on', s, pre, nx, vis, _, _, rfl, rfl, HCO.out _ (by rw [if_pos ⟨by omega, .inr hq3⟩]), HPS⟩
                              · go_wp2_with fail
                                go_roundg (mu n (degC pos) (vs idx) pre nx)
                                case measure => first | exact mu_pop | (simp only [List.concat_eq_append]; exact mu_pop)
                                case rel => exact ⟨lw, idx, low', on', s, pre, nx, vis, _, _, rfl, rfl, HCO.out _ (by rw [if_neg (by omega)]), HPS⟩
                          · go_wp2_with fail
                            go_roundg (mu n (degC pos) (vs idx) pre nx)
                            case measure => first | exact mu_pop | (simp only [List.concat_eq_append]; exact mu_pop)
                            case rel => exact ⟨lw, idx, low', on', s, pre, nx, vis, _, _, rfl, rfl, HCO.out _ (by rw [if_neg (by omega)]), HPS⟩
                · go_wp2_with fail
                  rcases List.eq_nil_or_concat pre with rfl | ⟨pre', p, rfl⟩
                  · exact absurd HT5.out.lone heq
                  · rw [List.concat_eq_append] at HT5 HM5 HLP
                    go_roundg (mu n (degC pos) (vs idx) (pre' ++ [p]) nx)
                    case measure => first | exact mu_pop | (simp only [List.concat_eq_append]; exact mu_pop)
                    case rel => exact ⟨lw, idx, low', on, _, _, nx, vis, _, _, rfl, rfl, HT5.out.close HND.out heq (HLP.out pre' p rfl), HM5.out.drewN _⟩
      · have HI0 : Hid (0 < idx r) := (by omega : 0 < idx r)
        have hi0' : (idx r : Int) ≠ 0 := by omega
        go_wp2_with fail
        go_roundg (n - (r + 1))
        case measure => omega
        case rel => exact ⟨r + 1, lw, idx, low, on, nx, vis, sv, cv, rfl, by omega, rfl, by go_num, HT.out.root HI0.out, HM.out⟩
    · obtain rfl : r = n := by omega
      have hb := hM.hb
      have HL : Hid (Low (EC r out pos) (fun x => x < r) lw) := hT.final
      clear hT hM
      go_wp2_with fail
      go_ret
      exact ⟨⟨lw, rfl, HL.out⟩, hb⟩
end Go.Proofs.Qxb6603020a
