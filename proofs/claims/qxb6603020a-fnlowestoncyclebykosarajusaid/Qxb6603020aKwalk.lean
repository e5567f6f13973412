/-
  zzKosarajuLowest (30).
-/
import Derived.Test.Qxb6603020aRows
import Derived.Test.Qxb6603020aGm
import Derived.Test.Qxb6603020aKstep
import Derived.Test.Qxb6603020aKpass
import Derived.WalkKit
import Derived.WalkSpells
import Derived.WalkLawsBesides
import Derived.ProofKit
import Derived.Lib.JoinLaws
import Derived.Deep.QuietTactic
import Derived.BigQuiet
import Derived.Deep.LoopGhost
import Derived.Deep.DeepCutAuto
import Derived.Deep.CutBlock
namespace Go.Proofs.Qxb6603020a
open Go.ChangeShapes Go.WideShapes Go.ChangeAt Go.RowKit Pl
set_option linter.unusedVariables false

set_option maxRecDepth 20000 in
set_option maxHeartbeats 1600000 in
theorem kosa_any (n : Nat) (ao : Option Addr) (lo co : Nat) (aa : Option Addr) (la ca : Nat) (out pos : Nat → Nat) (w : World) (hG : GM w w.heap.size ao lo aa la n out pos) :
    Calls Try.prog 30 #[.int .i64 n, .slice ao lo co, .slice aa la ca] w fun e w' => (∃ r : Int, e = .returned (.int .i32 r) ∧ Low (EC n out pos) (fun x => x < n) r) ∧ Below w.heap.size w w' := by
  obtain ⟨n1, n2, n3⟩ := hG.small
  have mkb := fun wx => run_make_row' (P := Try.prog) 23 4 (.bool false) 1 Try.underlying23 Try.info4 rfl .i64 .i64 n (by omega) (by omega) wx
  have mki := fun wx => run_make_room (P := Try.prog) 22 3 (.int .i64 0) 8 Try.underlying22 Try.info3 rfl .i64 .i64 n (by omega) (by omega) wx
  obtain ⟨i0, hi, hz0, hz1, hz2⟩ := info_parts Try.info3
  have HI : Hid (Try.prog.info? 3 = some i0 ∧ i0.size = 1) := ⟨hi, hz1⟩
  have HG : Hid (GM w w.heap.size ao lo aa la n out pos) := hG
  clear hi hz0 hz1 hz2 hG
  go_enter Try.func30, Try.ntmps30
  go_upto_block 0 with fail
  go_cut [8] (fun s8 wc => ∃ (ord : List Nat) (seen : Nat → Bool) (nx : Nat → Nat), s8 = .slice (some ⟨w.heap.size + 1, 0, none⟩) n n ∧ ord.length = n ∧ KI n (degC pos) (tgtC out pos) seen ord [] nx ∧ (∀ x, x < n → seen x = true) ∧ Stk wc (w.heap.size + 1) 3 .i64 n (cl ord) ∧ Below w.heap.size w wc)
  case first => as_aux_lemma =>
    clear mkb mki
    go_wp2_with fail
    go_loopg [8, 9, 10, 11] n (fun g s8 s9 s10 s11 wr => ∃ (s : Nat) (ord : List Nat) (seen : Nat → Bool) (nx : Nat → Nat), g = n - s ∧ s ≤ n ∧ s8 = .slice (some ⟨w.heap.size + 1, 0, none⟩) ord.length n ∧ s9 = .slice (some ⟨w.heap.size + 1 + 1, 0, none⟩) 0 n ∧ s10 = .slice (some ⟨w.heap.size + 1 + 1 + 1, 0, none⟩) 0 n ∧ s11 = .int .i64 s ∧ KN w wr n out pos s seen ord [] nx)
    case atStart => exact ⟨0, [], fun _ => false, fun _ => 0, rfl, Nat.zero_le _, rfl, rfl, rfl, rfl, KI.start, KM.start w n, fun x h => absurd h (by omega), cb_none n⟩
    case round =>
      obtain ⟨s, ord, seen, nx, rfl, hsn, rfl, rfl, rfl, rfl, hK⟩ := hrel
      by_cases hlt : s < n
      · have cs := ownB_cell hK.km.hs hlt
        have fs := hK.km.hs.free s
        cases hseen : seen s with
        | true =>
          rw [hseen] at cs
          go_wp2_with fail
          go_roundg (n - (s + 1))
          case measure => omega
          case rel => exact ⟨s + 1, ord, seen, nx, rfl, by omega, rfl, rfl, rfl, by go_num, hK.ki, hK.km, fun x hx => by
              by_cases e : x = s
              · rw [e]; exact hseen
              · exact hK.sn x (by omega), hK.ct⟩
        | false =>
          rw [hseen] at cs
          have HS0 : Hid (seen s = false) := hseen
          clear hseen
          have hcl := cb_lt hlt HS0.out
          have HK : Hid (KN w wr n out pos s seen ord [] nx) := hK
          obtain ⟨ba, oa, rfl, hba, hat⟩ := HG.out.at_ (by omega)
          obtain ⟨hla, hlo⟩ := HG.out.lens (by omega)
          have M1 := (hK.km.see s).alloc (.cells #[.int .i64 s] 3)
          have hab : wr.cell? ⟨ba, oa + s, none⟩ = some (.int .i64 (pos s)) := (hK.km.hb.cell (p := ⟨ba, oa + s, none⟩) hba).trans (hat s (by omega))
          have HAT : Hid (∀ v, v ≤ n → w.cell? ⟨ba, oa + v, none⟩ = some (.int .i64 (pos v))) := hat
          clear hK hat
          go_wp2_with (first
            | (at_builtin; refine wpList_push _ rfl (.tmp 55) (.tmp 57) 22 rfl 3 i0 Try.underlying22 HI.out.1 HI.out.2 (w.heap.size + 1 + 1) n .i64 [] M1.hv 0 rfl rfl (by omega) _ s rfl (by go_simp) ?_; intro w1 hV1 hg1; have M2 := M1.pushV hV1 hg1; have hab1 := (M2.hb.cell (p := ⟨ba, oa + s, none⟩) hba).trans (HAT.out s (by omega)); have M3 := M2.alloc (.cells #[.int .i64 (pos s)] 3))
            | (at_builtin; refine wpList_push _ rfl (.tmp 59) (.tmp 64) 22 rfl 3 i0 Try.underlying22 HI.out.1 HI.out.2 (w.heap.size + 1 + 1 + 1) n .i64 [] M3.he 0 rfl rfl (by omega) _ (pos s) rfl (by go_simp) ?_; intro w2 hE2 hg2; have M4 := M3.pushE hE2 hg2))
          clear M1 M2 M3 hV1 hg1 hE2 hg2 hab hab1 cs fs
          have HK2 : KN w w2 n out pos (s + 1) (upd seen s true) ord [s] (upd nx s 0) := by
            have K := HK.out
            refine ⟨K.ki.push hlt HS0.out _ (upd_same _ _ _) (.inl ⟨rfl, rfl⟩), ?_, fun x hx => ?_, ?_⟩
            · have e : eL pos (upd nx s 0) [s] = [((pos s : Nat) : Int)] := by unfold eL; simp [upd_same]
              rw [e]
              exact M4
            · by_cases e : x = s
              · rw [e, upd_same]
              · rw [upd_other _ _ e]; exact K.sn x (by omega)
            · rw [cb_push hlt HS0.out, K.ct]; simp
          clear M4
          go_loopg [8, 9, 10] (mu n (degC pos) (upd seen s true) [s] (upd nx s 0)) (fun g s8 s9 s10 wr => ∃ (ord stk : List Nat) (seen : Nat → Bool) (nx : Nat → Nat), g = mu n (degC pos) seen stk nx ∧ s8 = .slice (some ⟨w.heap.size + 1, 0, none⟩) ord.length n ∧ s9 = .slice (some ⟨w.heap.size + 1 + 1, 0, none⟩) stk.length n ∧ s10 = .slice (some ⟨w.heap.size + 1 + 1 + 1, 0, none⟩) stk.length n ∧ KN w wr n out pos (s + 1) seen ord stk nx)
          case atStart => exact ⟨ord, [s], _, _, rfl, rfl, rfl, rfl, HK2⟩
          case round =>
            clear HK HK2 HS0 hcl
            obtain ⟨ord, stk, seen, nx, rfl, rfl, rfl, rfl, hK⟩ := hrel
            rcases List.eq_nil_or_concat stk with rfl | ⟨pre, v, rfl⟩
            · have HK : Hid (KN w wr n out pos (s + 1) seen ord [] nx) := hK
              clear hK
              go_wp2_with fail
              go_roundg (n - (s + 1))
              case measure => omega
              case rel => exact ⟨s + 1, ord, seen, nx, rfl, by omega, rfl, rfl, rfl, by go_num, HK.out⟩
            · rw [List.concat_eq_append] at hK ⊢
              have hl : (pre ++ [v]).length = pre.length + 1 := by simp
              rw [hl]
              obtain ⟨tvn, tvp, tnb, tvc, tec, tsv, tle⟩ := hK.top
              have HK : Hid (KN w wr n out pos (s + 1) seen ord (pre ++ [v]) nx) := hK
              have hav : wr.cell? ⟨ba, oa + (v + 1), none⟩ = some (.int .i64 (pos (v + 1))) := (hK.km.hb.cell (p := ⟨ba, oa + (v + 1), none⟩) hba).trans (HAT.out (v + 1) (by omega))
              have hpn := HG.out.csr.le (show v + 1 ≤ n by omega) (Nat.le_refl n)
              have hp0 := HG.out.csr.le (Nat.zero_le v) (show v ≤ n by omega)
              have HM : Hid (Below w.heap.size w wr) := hK.km.hb
              clear hK hl
              go_wp2_with fail
              go_quiet (fail)
              by_cases he : pos v + nx v < pos (v + 1)
              · obtain ⟨bo, oo, rfl, hbo, hoc⟩ := HG.out.out_ (by omega) (pos v + nx v) (by omega) (by omega)
                have hxn := HG.out.csr.tg (pos v + nx v) (by omega) (by omega)
                have HX : Hid (∃ x, out (pos v + nx v) = x) := ⟨_, rfl⟩
                obtain ⟨x, hx⟩ := HX.out
                rw [hx] at hxn hoc
                have HX : Hid (out (pos v + nx v) = x) := hx
                have hoc1 := (HM.out.cell (p := ⟨bo, oo + (pos v + nx v), none⟩) hbo).trans hoc
                have hsx := ownB_cell HK.out.km.hs hxn
                have hax := (HM.out.cell (p := ⟨ba, oa + x, none⟩) hba).trans (HAT.out x (by omega))
                have fe := HK.out.km.he.free pre.length
                have fs := HK.out.km.hs.free x
                clear hx hoc
                cases hseen : seen x with
                | true =>
                  have HS0 : Hid (seen x = true) := hseen
                  rw [hseen] at hsx
                  clear hseen
                  go_wp2_with fail
                  have e : ((pos v + (nx v + 1) : Nat) : Int) = (pos v : Int) + (nx v : Int) + 1 := by omega
                  have M := (HK.out.km.drewN nq).eset pre.length ((pos v + (nx v + 1) : Nat) : Int)
                  have N := HK.out.next he (by rw [HX.out]; exact HS0.out) M
                  rw [e] at N
                  go_roundg (mu n (degC pos) seen (pre ++ [v]) (upd nx v (nx v + 1)))
                  case measure => rw [List.concat_eq_append]; exact HK.out.mu_next he
                  case rel => exact ⟨ord, pre ++ [v], seen, _, rfl, rfl, by rw [List.length_append]; rfl, by rw [List.length_append]; rfl, N⟩
                | false =>
                  have HS0 : Hid (seen x = false) := hseen
                  rw [hseen] at hsx
                  have hcl := cb_lt hxn hseen
                  rw [HK.out.ct] at hcl
                  have hll : pre.length + 1 < n := by simp at hcl; omega
                  have e : ((pos v + (nx v + 1) : Nat) : Int) = (pos v : Int) + (nx v : Int) + 1 := by omega
                  have M := (((HK.out.km.drewN nq).eset pre.length ((pos v + (nx v + 1) : Nat) : Int)).see x).alloc (.cells #[.int .i64 x] 3)
                  rw [e] at M
                  clear hseen hcl e
                  go_wp2_with (first
                    | (at_builtin; refine wpList_push _ rfl (.tmp 110) (.tmp 112) 22 rfl 3 i0 Try.underlying22 HI.out.1 HI.out.2 (w.heap.size + 1 + 1) n .i64 (cl (pre ++ [v])) M.hv (pre.length + 1) (by rw [cl_len]; simp) rfl (by omega) _ x rfl (by go_simp) ?_; intro w3 hV3 hg3; have M3 := M.pushV hV3 hg3; have hab1 := (M3.hb.cell (p := ⟨ba, oa + x, none⟩) hba).trans (HAT.out x (by omega)); have M4 := M3.alloc (.cells #[.int .i64 (pos x)] 3))
                    | (at_builtin; refine wpList_push _ rfl (.tmp 114) (.tmp 119) 22 rfl 3 i0 Try.underlying22 HI.out.1 HI.out.2 (w.heap.size + 1 + 1 + 1) n .i64 _ M4.he (pre.length + 1) (by rw [List.length_set, eL_len]; simp) rfl (by omega) _ (pos x) rfl (by go_simp) ?_; intro w4 hE4 hg4; have M5 := M4.pushE hE4 hg4))
                  have N := HK.out.push HG.out.csr he HX.out HS0.out (w1 := w4) (by
                    have e : ((pos v + (nx v + 1) : Nat) : Int) = (pos v : Int) + (nx v : Int) + 1 := by omega
                    rw [e]; exact M5)
                  go_roundg (mu n (degC pos) (upd seen x true) (pre ++ [v] ++ [x]) (upd (upd nx v (nx v + 1)) x 0))
                  case measure => rw [List.concat_eq_append]; exact HK.out.mu_push HG.out.csr he HX.out HS0.out
                  case rel => exact ⟨ord, pre ++ [v] ++ [x], _, _, rfl, rfl, by rw [List.length_append, List.length_append]; rfl, by rw [List.length_append, List.length_append]; rfl, N⟩
              · go_wp2_with (first
                  | (at_builtin; refine wpList_push _ rfl (.tmp 121) (.tmp 123) 22 rfl 3 i0 Try.underlying22 HI.out.1 HI.out.2 (w.heap.size + 1) n .i64 (cl ord) ((HK.out.km.drewN _).alloc _).ho ord.length (cl_len ord) rfl (by omega) _ v rfl (fresh_cellN _ _ _ _) ?_; intro w3 hO3 hg3; have M3 := ((HK.out.km.drewN _).alloc _).pushO hO3 hg3))
                go_roundg (mu n (degC pos) seen pre nx)
                case measure => rw [List.concat_eq_append]; exact HK.out.mu_pop
                case rel => exact ⟨ord ++ [v], pre, seen, nx, rfl, by rw [List.length_append]; rfl, rfl, rfl, HK.out.pop he M3⟩
      · go_wp2_with fail
        go_meet
        case rel =>
          obtain rfl : s = n := by omega
          have hl : ord.length = s := by have := hK.ct; rw [cb_all hK.sn] at this; simpa using this.symm
          exact ⟨ord, seen, nx, by rw [hl], hl, hK.ki, hK.sn, hK.km.ho, hK.km.hb⟩
  case rest =>
    obtain ⟨ord, seen, nx, rfl, hol, hki, hall, hO, hB⟩ := hcut
    have HKI : Hid (KI n (degC pos) (tgtC out pos) seen ord [] nx ∧ (∀ x, x < n → seen x = true) ∧ ord.length = n) := ⟨hki, hall, hol⟩
    have R0 := R1.start hO hB out (pos 0)
    clear hki hall hol hB hO mkb mki
    have mk1 := fun wx => run_make_row' (P := Try.prog) 22 3 (.int .i64 0) 8 Try.underlying22 Try.info3 rfl .i64 .i64 (n + 1) (by omega) (by omega) wx
    simp only [Int.natCast_add, Int.natCast_one] at mk1
    go_upto_block 4 with fail
    have HR : Hid (R1 w (wc.alloc (.cells (madeCells #[.int .i64 0] (n + 1)) 3)) n ord wc.heap.size (cF out (pos 0) 0)) := R0
    clear R0 mk1
    go_cut [15] (fun s15 wd => ∃ g, s15 = .slice (some ⟨g, 0, none⟩) (n + 1) (n + 1) ∧ R1 w wd n ord g (cF out (pos 0) (pos n - pos 0)))
    case first => as_aux_lemma =>
      go_wp2_with fail
      go_loopg [16] n (fun g s16 wr => ∃ v, g = n - v ∧ v ≤ n ∧ s16 = .int .i64 (v : Nat) ∧ R1 w wr n ord wc.heap.size (cF out (pos 0) (pos v - pos 0)))
      case atStart => exact ⟨0, rfl, Nat.zero_le _, rfl, by rw [Nat.sub_self]; exact HR.out⟩
      case round =>
        obtain ⟨v, rfl, hvn, rfl, hR⟩ := hrel
        by_cases hlt : v < n
        · obtain ⟨ba, oa, rfl, hba, hat⟩ := HG.out.at_ (by omega)
          obtain ⟨hla, hlo⟩ := HG.out.lens (by omega)
          have hav : wr.cell? ⟨ba, oa + v, none⟩ = some (.int .i64 (pos v)) := (hR.hb.cell (p := ⟨ba, oa + v, none⟩) hba).trans (hat v (by omega))
          have HAT : Hid (w.cell? ⟨ba, oa + (v + 1), none⟩ = some (.int .i64 (pos (v + 1)))) := hat (v + 1) (by omega)
          have hp0 := HG.out.csr.le (Nat.zero_le v) (show v ≤ n by omega)
          have hp1 := HG.out.csr.mono v hlt
          have hp2 := HG.out.csr.le (show v + 1 ≤ n by omega) (Nat.le_refl n)
          have HR1 : Hid (R1 w wr n ord wc.heap.size (cF out (pos 0) (pos v - pos 0))) := hR
          clear hR hat
          go_wp2_with fail
          go_loopg [17] (pos (v + 1) - pos v) (fun g s17 wr => ∃ e, g = pos (v + 1) - e ∧ pos v ≤ e ∧ e ≤ pos (v + 1) ∧ s17 = .int .i64 (e : Nat) ∧ R1 w wr n ord wc.heap.size (cF out (pos 0) (e - pos 0)))
          case atStart => exact ⟨pos v, rfl, Nat.le_refl _, hp1, rfl, HR1.out⟩
          case round =>
            obtain ⟨e, rfl, he1, he2, rfl, hR⟩ := hrel
            have hav2 := (hR.hb.cell (p := ⟨ba, oa + (v + 1), none⟩) hba).trans HAT.out
            have HR2 : Hid (R1 w wr n ord wc.heap.size (cF out (pos 0) (e - pos 0))) := hR
            by_cases hel : e < pos (v + 1)
            · obtain ⟨bo, oo, rfl, hbo, hoc⟩ := HG.out.out_ (by omega) e (by omega) (by omega)
              have hxn := HG.out.csr.tg e (by omega) (by omega)
              have HX : Hid (∃ x, out e = x) := ⟨_, rfl⟩
              obtain ⟨x, hx⟩ := HX.out
              rw [hx] at hxn hoc
              have hoc1 := (hR.hb.cell (p := ⟨bo, oo + e, none⟩) hbo).trans hoc
              have hcx := ownN_cell hR.ha (show x + 1 < n + 1 by omega)
              have fcx := hR.ha.free (x + 1)
              have hst := (cF_step (out := out) (a0 := pos 0) (k := e - pos 0))
              rw [show pos 0 + (e - pos 0) = e by omega, hx, show e - pos 0 + 1 = e + 1 - pos 0 by omega] at hst
              have HST : Hid (_ = _) := hst
              have hcs : cF out (pos 0) (e - pos 0) (x + 1) ≤ 65536 := Nat.le_trans cF_le (by omega)
              clear hR hx hoc hst
              go_wp2_with fail
              have N := HR2.out.set (x + 1) (cF out (pos 0) (e - pos 0) (x + 1) + 1)
              rw [HST.out, Int.natCast_add, Int.natCast_one] at N
              go_roundg (pos (v + 1) - (e + 1))
              case measure => omega
              case rel => exact ⟨e + 1, rfl, by omega, by omega, by go_num, N⟩
            · have hee : e = pos (v + 1) := by omega
              clear hR
              go_wp2_with fail
              go_roundg (n - (v + 1))
              case measure => omega
              case rel => exact ⟨v + 1, rfl, by omega, by go_num, by rw [← hee]; exact HR2.out⟩
        · go_wp2_with fail
          go_meet
          case rel =>
            obtain rfl : v = n := by omega
            exact ⟨_, rfl, hR⟩
    case rest =>
      obtain ⟨g, rfl, hR⟩ := hcut
      have HR2 : Hid (R1 w wc n ord g (cF out (pos 0) (pos n - pos 0))) := hR
      clear HR hR
      go_upto_block 8 with fail
      go_cut [] (fun we => R1 w we n ord g (rAt out (pos 0) (pos n - pos 0)))
      case first => as_aux_lemma =>
        go_wp2_with fail
        go_loopg [18] n (fun z s18 wr => ∃ v, z = n - v ∧ v ≤ n ∧ s18 = .int .i64 (v : Nat) ∧ R1 w wr n ord g (pF out (pos 0) (pos n - pos 0) v))
        case atStart => exact ⟨0, rfl, Nat.zero_le _, rfl, by rw [pF_zero]; exact HR2.out⟩
        case round =>
          obtain ⟨v, rfl, hvn, rfl, hR⟩ := hrel
          by_cases hlt : v < n
          · obtain ⟨hla, hlo⟩ := HG.out.lens (by omega)
            have hp0 := HG.out.csr.le (Nat.zero_le n) (Nat.le_refl n)
            have hc1 := ownN_cell hR.ha (show v < n + 1 by omega)
            have hc2 := ownN_cell hR.ha (show v + 1 < n + 1 by omega)
            have fc2 := hR.ha.free (v + 1)
            rw [pF_at] at hc1
            rw [pF_next] at hc2
            have b1 : cnt out (pos 0) v (pos n - pos 0) ≤ 65536 := Nat.le_trans cnt_le (by omega)
            have b2 : rAt out (pos 0) (pos n - pos 0) v ≤ 65536 := by
              have := rAt_mono (out := out) (a0 := pos 0) (K := pos n - pos 0) hvn
              rw [rAt_all HG.out.csr _ (by omega)] at this
              omega
            have HR3 : Hid (R1 w wr n ord g (pF out (pos 0) (pos n - pos 0) v)) := hR
            clear hR
            go_wp2_with fail
            go_region
            go_wp2_with fail
            have N := (HR3.out.set (v + 1) (cnt out (pos 0) v (pos n - pos 0) + rAt out (pos 0) (pos n - pos 0) v)).drew
            rw [pF_step, Int.natCast_add] at N
            go_roundg (n - (v + 1))
            case measure => omega
            case rel => exact ⟨v + 1, rfl, by omega, by go_num, N⟩
          · go_wp2_with fail
            go_meet
            case rel =>
              obtain rfl : v = n := by omega
              exact ⟨hR.ho, by rw [← pF_done]; exact hR.ha, hR.hb, hR.hg⟩
      case rest =>
        have hp0 := HG.out.csr.le (Nat.zero_le n) (Nat.le_refl n)
        have hKb : pos n - pos 0 ≤ 65536 := by
          by_cases h : 0 < n
          · have := HG.out.lens h; omega
          · obtain rfl : n = 0 := by omega
            omega
        have HK0 : Hid (∃ K, pos 0 + K = pos n ∧ pos n - pos 0 = K) := ⟨_, by omega, rfl⟩
        obtain ⟨K, hK, hK'⟩ := HK0.out
        rw [hK'] at hKb hcut
        have HKK : Hid (pos 0 + K = pos n) := hK
        have hcn := ownN_cell hcut.ha (show n < n + 1 by omega)
        rw [rAt_all HG.out.csr K hK] at hcn
        have HR3 := R2.start hcut K
        have mkK := fun wx => run_make_row' (P := Try.prog) 22 3 (.int .i64 0) 8 Try.underlying22 Try.info3 rfl .i64 .i64 K (by omega) (by omega) wx
        have mkn := fun wx => run_make_row' (P := Try.prog) 22 3 (.int .i64 0) 8 Try.underlying22 Try.info3 rfl .i64 .i64 n (by omega) (by omega) wx
        clear hp0 hK hK' HK0 hcut HR2
        go_upto_block 10 with fail
        clear mkK mkn
        go_cut [19, 20] (fun s19 s20 we => ∃ r, s19 = .slice (some ⟨r, 0, none⟩) K K ∧ s20 = .slice (some ⟨r + 1, 0, none⟩) n n ∧ R2 w we n ord g (rAt out (pos 0) K) r K (fun _ => 0) (gF out (pos 0) K 0))
        case first => as_aux_lemma =>
          have HR4 : Hid (R2 w _ n ord g (rAt out (pos 0) K) _ K (fun _ => 0) (fun _ => 0)) := HR3
          clear HR3
          go_wp2_with fail
          go_loopg [21] n (fun z s21 wr => ∃ v, z = n - v ∧ v ≤ n ∧ s21 = .int .i64 (v : Nat) ∧ R2 w wr n ord g (rAt out (pos 0) K) wc.heap.size K (fun _ => 0) (fF out (pos 0) K v))
          case atStart => exact ⟨0, rfl, Nat.zero_le _, rfl, by rw [fF_zero]; exact HR4.out⟩
          case round =>
            obtain ⟨v, rfl, hvn, rfl, hR⟩ := hrel
            by_cases hlt : v < n
            · have hc1 := ownN_cell hR.r1.ha (show v < n + 1 by omega)
              have fc2 := hR.hf.free v
              have hc2 := ownN_cell hR.hf hlt
              have HR5 : Hid (R2 w wr n ord g (rAt out (pos 0) K) wc.heap.size K (fun _ => 0) (fF out (pos 0) K v)) := hR
              clear hR
              go_wp2_with fail
              have N := HR5.out.setF v (rAt out (pos 0) K v)
              rw [fF_step] at N
              go_roundg (n - (v + 1))
              case measure => omega
              case rel => exact ⟨v + 1, rfl, by omega, by go_num, N⟩
            · go_wp2_with fail
              go_meet
              case rel =>
                obtain rfl : v = n := by omega
                exact ⟨_, rfl, rfl, hR.r1, hR.hr, by rw [← fF_done]; exact hR.hf, hR.gr⟩
        case rest =>
          clear HR3
          obtain ⟨r, rfl, rfl, hR⟩ := hcut
          have HR4 : Hid (R2 w wc n ord g (rAt out (pos 0) K) r K (fun _ => 0) (gF out (pos 0) K 0)) := hR
          clear hR
          go_upto_block 12 with fail
          go_cut [19] (fun s19 we => ∃ (r : Nat) (rev : Nat → Nat), s19 = .slice (some ⟨r, 0, none⟩) K K ∧ R1 w we n ord g (rAt out (pos 0) K) ∧ Own we r 3 (rowN K rev) ∧ RI n out pos (pos 0) K K rev ∧ w.heap.size + 1 < r)
          case first => as_aux_lemma =>
            go_wp2_with fail
            go_loopg [22] n (fun z s22 wr => ∃ (v : Nat) (rev : Nat → Nat), z = n - v ∧ v ≤ n ∧ s22 = .int .i64 (v : Nat) ∧ R2 w wr n ord g (rAt out (pos 0) K) r K rev (gF out (pos 0) K (pos v - pos 0)) ∧ RI n out pos (pos 0) K (pos v - pos 0) rev)
            case atStart => exact ⟨0, _, rfl, Nat.zero_le _, rfl, by rw [Nat.sub_self]; exact HR4.out, by rw [Nat.sub_self]; exact RI.start⟩
            case round =>
              obtain ⟨v, rev, rfl, hvn, rfl, hR, hI⟩ := hrel
              by_cases hlt : v < n
              · obtain ⟨ba, oa, rfl, hba, hat⟩ := HG.out.at_ (by omega)
                obtain ⟨hla, hlo⟩ := HG.out.lens (by omega)
                have hav : wr.cell? ⟨ba, oa + v, none⟩ = some (.int .i64 (pos v)) := (hR.r1.hb.cell (p := ⟨ba, oa + v, none⟩) hba).trans (hat v (by omega))
                have HAT : Hid (w.cell? ⟨ba, oa + (v + 1), none⟩ = some (.int .i64 (pos (v + 1)))) := hat (v + 1) (by omega)
                have hp0 := HG.out.csr.le (Nat.zero_le v) (show v ≤ n by omega)
                have hp1 := HG.out.csr.mono v hlt
                have hp2 := HG.out.csr.le (show v + 1 ≤ n by omega) (Nat.le_refl n)
                have HR1 : Hid (R2 w wr n ord g (rAt out (pos 0) K) r K rev (gF out (pos 0) K (pos v - pos 0)) ∧ RI n out pos (pos 0) K (pos v - pos 0) rev) := ⟨hR, hI⟩
                clear hR hat hI
                go_wp2_with fail
                go_loopg [23] (pos (v + 1) - pos v) (fun z s23 wr => ∃ (e : Nat) (rev : Nat → Nat), z = pos (v + 1) - e ∧ pos v ≤ e ∧ e ≤ pos (v + 1) ∧ s23 = .int .i64 (e : Nat) ∧ R2 w wr n ord g (rAt out (pos 0) K) r K rev (gF out (pos 0) K (e - pos 0)) ∧ RI n out pos (pos 0) K (e - pos 0) rev)
                case atStart => exact ⟨pos v, rev, rfl, Nat.le_refl _, hp1, rfl, HR1.out⟩
                case round =>
                  obtain ⟨e, rev, rfl, he1, he2, rfl, hR, hI⟩ := hrel
                  have hav2 := (hR.r1.hb.cell (p := ⟨ba, oa + (v + 1), none⟩) hba).trans HAT.out
                  by_cases hel : e < pos (v + 1)
                  · obtain ⟨bo, oo, rfl, hbo, hoc⟩ := HG.out.out_ (by omega) e (by omega) (by omega)
                    have hxn := HG.out.csr.tg e (by omega) (by omega)
                    have hk0 := HKK.out
                    have hst := gF_step (out := out) (a0 := pos 0) (K := K) (k := e - pos 0)
                    have hgl := gF_lt (k := e - pos 0) HG.out.csr HKK.out (by omega) (by rw [show pos 0 + (e - pos 0) = e by omega]; exact hxn)
                    have hI2 := hI.step HG.out.csr (v := v) (by omega) (by rw [show pos 0 + (e - pos 0) = e by omega]; exact hxn) (by rw [show pos 0 + (e - pos 0) = e by omega]; exact ⟨hlt, he1, hel⟩)
                    rw [show pos 0 + (e - pos 0) = e by omega] at hst hgl hI2
                    rw [show e - pos 0 + 1 = e + 1 - pos 0 by omega] at hst hI2
                    have HX : Hid (∃ x, out e = x) := ⟨_, rfl⟩
                    obtain ⟨x, hx⟩ := HX.out
                    rw [hx] at hxn hoc hst hgl hI2
                    have hoc1 := (hR.r1.hb.cell (p := ⟨bo, oo + e, none⟩) hbo).trans hoc
                    have hcx := ownN_cell hR.hf hxn
                    have fcx := hR.hf.free x
                    have fcr := hR.hr.free (gF out (pos 0) K (e - pos 0) x)
                    have hcr := ownN_cell hR.hr hgl
                    have HST : Hid (upd (gF out (pos 0) K (e - pos 0)) x (gF out (pos 0) K (e - pos 0) x + 1) = gF out (pos 0) K (e + 1 - pos 0) ∧ RI n out pos (pos 0) K (e + 1 - pos 0) (upd rev (gF out (pos 0) K (e - pos 0) x) v)) := ⟨hst, hI2⟩
                    have HR2 : Hid (R2 w wr n ord g (rAt out (pos 0) K) r K rev (gF out (pos 0) K (e - pos 0))) := hR
                    have hgr := hR.gr
                    clear hR hx hoc hst hI hI2 hk0
                    go_wp2_with fail
                    have N := (HR2.out.setR (gF out (pos 0) K (e - pos 0) x) v).setF x (gF out (pos 0) K (e - pos 0) x + 1)
                    rw [HST.out.1, Int.natCast_add, Int.natCast_one] at N
                    go_roundg (pos (v + 1) - (e + 1))
                    case measure => omega
                    case rel => exact ⟨e + 1, _, rfl, by omega, by omega, by go_num, N, HST.out.2⟩
                  · have hee : e = pos (v + 1) := by omega
                    have HR2 : Hid (R2 w wr n ord g (rAt out (pos 0) K) r K rev (gF out (pos 0) K (e - pos 0)) ∧ RI n out pos (pos 0) K (e - pos 0) rev) := ⟨hR, hI⟩
                    clear hR hI
                    go_wp2_with fail
                    go_roundg (n - (v + 1))
                    case measure => omega
                    case rel => exact ⟨v + 1, rev, rfl, by omega, by go_num, by rw [← hee]; exact HR2.out.1, by rw [← hee]; exact HR2.out.2⟩
              · have HRI : Hid (R2 w wr n ord g (rAt out (pos 0) K) r K rev (gF out (pos 0) K (pos v - pos 0)) ∧ RI n out pos (pos 0) K (pos v - pos 0) rev) := ⟨hR, hI⟩
                clear hI
                go_wp2_with fail
                go_meet
                case rel =>
                  obtain rfl : v = n := by omega
                  have hI := HRI.out.2
                  have hK := HKK.out
                  rw [show pos v - pos 0 = K by omega] at hI
                  have h1 := hR.gr
                  have h2 := hR.r1.hg
                  exact ⟨_, rev, rfl, hR.r1, hR.hr, hI, by omega⟩
          case rest =>
            obtain ⟨r, rev, rfl, hR, hO, hI, hr1⟩ := hcut
            have HRV : Hid (∀ v u, v < n → (EC n out pos u v ↔ ∃ p, rAt out (pos 0) K v ≤ p ∧ p < rAt out (pos 0) K (v + 1) ∧ rev p = u)) := fun v u hv => hI.all HG.out.csr HKK.out hv
            have HRA : Hid (∀ x, x ≤ n → rAt out (pos 0) K x ≤ K) := fun x hx => rAt_le HG.out.csr HKK.out hx
            have HR5 := R4.start hR hO hr1
            clear hR hO hI hr1 HR4
            have mkb := fun wx => run_make_row' (P := Try.prog) 23 4 (.bool false) 1 Try.underlying23 Try.info4 rfl .i64 .i64 n (by omega) (by omega) wx
            have mki := fun wx => run_make_room (P := Try.prog) 22 3 (.int .i64 0) 8 Try.underlying22 Try.info3 rfl .i64 .i64 n (by omega) (by omega) wx
            go_upto_block 16 with fail
            clear mkb mki
            have HR6 : Hid (R4 w _ n ord g (rAt out (pos 0) K) r K rev _ (fun _ => false) []) := HR5
            clear HR5
            go_wp2_with fail
            go_loopg [26, 27, 28] n (fun z s26 s27 s28 wr => ∃ (j : Nat) (lo : Int) (done : Nat → Bool), j = z ∧ j ≤ n ∧ s26 = .slice (some ⟨wc.heap.size + 1, 0, none⟩) 0 n ∧ s27 = .int .i64 lo ∧ s28 = .int .i64 ((j : Int) - 1) ∧ K2 n (EC n out pos) done lo ∧ (∀ k x, j ≤ k → ord[k]? = some x → done x = true) ∧ R4 w wr n ord g (rAt out (pos 0) K) r K rev wc.heap.size done [])
            case atStart =>
              refine ⟨n, -1, _, rfl, Nat.le_refl _, rfl, rfl, rfl, K2.start, fun k x hk hx => ?_, HR6.out⟩
              have := (List.getElem?_eq_some_iff.1 hx).1
              rw [HKI.out.2.2] at this
              omega
            case round =>
              obtain ⟨j, lo, done, rfl, hjn, rfl, rfl, rfl, hK2, hdn, hR⟩ := hrel
              have HK2 : Hid (K2 n (EC n out pos) done lo ∧ ∀ k x, j ≤ k → ord[k]? = some x → done x = true) := ⟨hK2, hdn⟩
              obtain ⟨hl1, hl2⟩ := hK2.range
              clear hK2 hdn
              cases j with
              | zero =>
                have hb := hR.r1.hb
                clear hR
                go_wp2_with fail
                go_ret
                exact ⟨⟨lo, by go_num, HKI.out.1.whole HKI.out.2.1 HK2.out.1 (fun k x hk => HK2.out.2 k x hk)⟩, hb⟩
              | succ j =>
                have HRT : Hid (∃ root, ord[j]? = some root) := ⟨ord[j]'(by rw [HKI.out.2.2]; omega), List.getElem?_eq_getElem _⟩
                obtain ⟨root, hroot⟩ := HRT.out
                have hrn : root < n := HKI.out.1.ob root (List.mem_of_getElem? hroot)
                have hco := hR.r1.ho.cell (cl_get hroot)
                have hcd := ownB_cell hR.hd hrn
                have fcd := hR.hd.free root
                have HRT : Hid (ord[j]? = some root) := hroot
                clear hroot
                cases hd0 : done root with
                | true =>
                  have HD0 : Hid (done root = true) := hd0
                  rw [hd0] at hcd
                  have HR7 : Hid (R4 w wr n ord g (rAt out (pos 0) K) r K rev wc.heap.size done []) := hR
                  clear hd0 hR
                  go_wp2_with fail
                  go_roundg j
                  case measure => omega
                  case rel =>
                    refine ⟨j, lo, done, rfl, by omega, rfl, rfl, by go_num, HK2.out.1, fun k x hk hx => ?_, HR7.out⟩
                    by_cases e : k = j
                    · rw [e, HRT.out] at hx
                      obtain rfl : root = x := by simpa using hx
                      exact HD0.out
                    · exact HK2.out.2 k x (by omega) hx
                | false =>
                  have HD0 : Hid (done root = false) := hd0
                  rw [hd0] at hcd
                  have M := (hR.mark root).alloc (.cells #[.int .i64 root] 3)
                  clear hd0 hR
                  go_wp2_with (first
                    | (at_builtin; refine wpList_push _ rfl (.tmp 256) (.tmp 258) 22 rfl 3 i0 Try.underlying22 HI.out.1 HI.out.2 (wc.heap.size + 1) n .i64 [] M.hs 0 rfl rfl (by omega) _ root rfl (by go_simp) ?_; intro w3 hS3 hg3; have M3 := M.push hS3 hg3))
                  have HM : Hid (R4 w w3 n ord g (rAt out (pos 0) K) r K rev wc.heap.size (upd done root true) (cl [root])) := M3
                  clear M M3 hS3 hg3 hco hcd fcd
                  have HK4 : Hid (K4 n (EC n out pos) done root (upd done root true) [] [root] root) := K4.start hrn HD0.out
                  go_loopg [26, 30, 31] n (fun z s26 s30 s31 wr => ∃ (P s : List Nat) (dn : Nat → Bool) (least : Nat), z = n - P.length ∧ s26 = .slice (some ⟨wc.heap.size + 1, 0, none⟩) s.length n ∧ s30 = .int .i64 P.length ∧ s31 = .int .i64 least ∧ K4 n (EC n out pos) done root dn P s least ∧ R4 w wr n ord g (rAt out (pos 0) K) r K rev wc.heap.size dn (cl s))
                  case atStart => exact ⟨[], [root], _, root, rfl, rfl, rfl, rfl, HK4.out, HM.out⟩
                  case round =>
                    obtain ⟨P, s, dn, least, rfl, rfl, rfl, rfl, hK, hR⟩ := hrel
                    have hPn := hK.size
                    have hln := hK.l3
                    have HK5 : Hid (K4 n (EC n out pos) done root dn P s least) := hK
                    have HR7 : Hid (R4 w wr n ord g (rAt out (pos 0) K) r K rev wc.heap.size dn (cl s)) := hR
                    clear hK
                    rcases List.eq_nil_or_concat s with rfl | ⟨s, v, rfl⟩
                    · clear hR
                      have HF : Hid (∀ lo' : Int, lo' = (if 1 < P.length ∧ (lo < 0 ∨ (least : Int) < lo) then (least : Int) else lo) → K2 n (EC n out pos) dn lo') := fun lo' h => HK5.out.finish HK2.out.1 (HKI.out.1.fresh HKI.out.2.1 HRT.out HD0.out (fun k x hk => HK2.out.2 k x (by omega))) h
                      by_cases hp : 1 < P.length
                      · by_cases hl0 : lo < 0
                        · go_wp2_with fail
                          go_roundg j
                          case measure => omega
                          case rel => exact ⟨j, least, dn, rfl, by omega, rfl, rfl, by go_num, HF.out _ (by rw [if_pos ⟨hp, .inl hl0⟩]), HK5.out.marked HRT.out HK2.out.2, HR7.out⟩
                        · by_cases hl1 : (least : Int) < lo
                          · go_wp2_with fail
                            go_roundg j
                            case measure => omega
                            case rel => exact ⟨j, least, dn, rfl, by omega, rfl, rfl, by go_num, HF.out _ (by rw [if_pos ⟨hp, .inr hl1⟩]), HK5.out.marked HRT.out HK2.out.2, HR7.out⟩
                          · go_wp2_with fail
                            go_roundg j
                            case measure => omega
                            case rel => exact ⟨j, lo, dn, rfl, by omega, rfl, rfl, by go_num, HF.out _ (by rw [if_neg (by omega)]), HK5.out.marked HRT.out HK2.out.2, HR7.out⟩
                      · go_wp2_with fail
                        go_roundg j
                        case measure => omega
                        case rel => exact ⟨j, lo, dn, rfl, by omega, rfl, rfl, by go_num, HF.out _ (by rw [if_neg (by omega)]), HK5.out.marked HRT.out HK2.out.2, HR7.out⟩
                    · rw [List.concat_eq_append] at HK5 HR7 hR ⊢
                      have hl : (s ++ [v]).length = s.length + 1 := by simp
                      rw [hl]
                      obtain ⟨hvn, hsz⟩ := HK5.out.top
                      have htop := hR.top
                      have ha1 := ownN_cell hR.r1.ha (show v < n + 1 by omega)
                      have hra := HRA.out (v + 1) (by omega)
                      have hrm := rAt_mono (out := out) (a0 := pos 0) (K := K) (show v ≤ v + 1 by omega)
                      clear hR hl
                      have HR8 : Hid (R4 w wr n ord g (rAt out (pos 0) K) r K rev wc.heap.size dn (cl s)) := by have h := HR7.out; rw [cl_append] at h; exact h.pop
                      have HLS : Hid ((least = root ∨ least ∈ P) ∧ ∀ x ∈ P, least ≤ x) := ⟨HK5.out.l1, HK5.out.l2⟩
                      by_cases hvl : v < least
                      all_goals
                        go_wp2_with fail
                        go_loopg [26, 33] (rAt out (pos 0) K (v + 1) - rAt out (pos 0) K v) (fun z s26 s33 wr => ∃ (s : List Nat) (dn : Nat → Bool) (p : Nat), z = rAt out (pos 0) K (v + 1) - p ∧ rAt out (pos 0) K v ≤ p ∧ p ≤ rAt out (pos 0) K (v + 1) ∧ s26 = .slice (some ⟨wc.heap.size + 1, 0, none⟩) s.length n ∧ s33 = .int .i64 (p : Nat) ∧ K5 n (EC n out pos) done root dn P s v rev (rAt out (pos 0) K v) p ∧ R4 w wr n ord g (rAt out (pos 0) K) r K rev wc.heap.size dn (cl s))
                        case atStart => exact ⟨s, dn, _, rfl, Nat.le_refl _, hrm, rfl, rfl, HK5.out.pop _, HR8.out⟩
                        case round =>
                          clear HK5 HR7 HR8 htop ha1
                          obtain ⟨s, dn, p, rfl, hp1, hp2, rfl, rfl, hK, hR⟩ := hrel
                          have ha2 := ownN_cell hR.r1.ha (show v + 1 < n + 1 by omega)
                          have HK5 : Hid (K5 n (EC n out pos) done root dn P s v rev (rAt out (pos 0) K v) p) := hK
                          have HR7 : Hid (R4 w wr n ord g (rAt out (pos 0) K) r K rev wc.heap.size dn (cl s)) := hR
                          by_cases hpl : p < rAt out (pos 0) K (v + 1)
                          · have hrc := ownN_cell hR.hr (show p < K by omega)
                            have hE := (HRV.out v (rev p) hvn).2 ⟨p, hp1, hpl, rfl⟩
                            have HX : Hid (∃ u, rev p = u) := ⟨_, rfl⟩
                            obtain ⟨u, hu⟩ := HX.out
                            rw [hu] at hrc hE
                            have hun := (HG.out.csr.edge hE).1
                            have HE : Hid (rev p = u ∧ EC n out pos u v) := ⟨hu, hE⟩
                            have hcd := ownB_cell hR.hd hun
                            have fcd := hR.hd.free u
                            clear hu hE
                            cases hdu : dn u with
                            | true =>
                              have HD1 : Hid (dn u = true) := hdu
                              rw [hdu] at hcd
                              clear hK hR hdu
                              go_wp2_with fail
                              go_roundg (rAt out (pos 0) K (v + 1) - (p + 1))
                              case measure => omega
                              case rel => exact ⟨s, dn, p + 1, rfl, by omega, by omega, rfl, by go_num, HK5.out.skip (by rw [HE.out.1]; exact HD1.out), HR7.out⟩
                            | false =>
                              have HD1 : Hid (dn u = false) := hdu
                              rw [hdu] at hcd
                              have hroom := hK.room hun hdu
                              have M := (hR.mark u).alloc (.cells #[.int .i64 u] 3)
                              clear hK hR hdu
                              go_wp2_with (first
                                | (at_builtin; refine wpList_push _ rfl (.tmp 306) (.tmp 308) 22 rfl 3 i0 Try.underlying22 HI.out.1 HI.out.2 (wc.heap.size + 1) n .i64 (cl s) M.hs s.length (cl_len s) rfl (by omega) _ u rfl (by go_simp) ?_; intro w5 hS5 hg5; have M5 := M.push hS5 hg5))
                              go_roundg (rAt out (pos 0) K (v + 1) - (p + 1))
                              case measure => omega
                              case rel => exact ⟨s ++ [u], _, p + 1, rfl, by omega, by omega, by rw [List.length_append]; rfl, by go_num, HK5.out.push HE.out.1 hun HD1.out HE.out.2, by rw [cl_append]; exact M5⟩
                          · have hpe : p = rAt out (pos 0) K (v + 1) := by omega
                            clear hK hR
                            go_wp2_with fail
                            go_roundg (n - (P.length + 1))
                            case measure => omega
                            case rel =>
                              refine ⟨P ++ [v], s, dn, _, by rw [List.length_append]; rfl, rfl, by rw [List.length_append]; rfl, rfl, HK5.out.all ?_ HLS.out.1 HLS.out.2 hln ?_, HR7.out⟩
                              · rw [hpe]
                                exact fun u hu => (HRV.out v u hvn).1 hu
                              · first
                                | rw [if_pos hvl]
                                | rw [if_neg hvl]
end Go.Proofs.Qxb6603020a
