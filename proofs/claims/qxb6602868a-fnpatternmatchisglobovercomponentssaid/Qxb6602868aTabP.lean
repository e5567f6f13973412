/-
  zzPartsMatch (11): the table over the parts and the components.
-/
import Derived.Test.Qxb6602868aTabC
namespace Go.Proofs.Qxb6602868a
open Go.ChangeShapes Go.WideShapes Go.ChangeAt Go.RowKit Pl
set_option linter.unusedVariables false

theorem mkT {w w' : World} (h : Below w.heap.size w w') {b d1 d2 k o1 o2 : Nat} {v1 v2 v3 : Value} (hc : w.cell? ⟨b, k, none⟩ = some v1) (h1 : w.cell? ⟨d1, o1, none⟩ = some v2) (h2 : w.cell? ⟨d2, o2, none⟩ = some v3) :
    Below w.heap.size w w' ∧ w'.cell? ⟨b, k, none⟩ = some v1 ∧ w'.cell? ⟨d1, o1, none⟩ = some v2 ∧ w'.cell? ⟨d2, o2, none⟩ = some v3 :=
  ⟨h, (h.cell (p := ⟨b, k, none⟩) (lt_of_cell hc)).trans hc, (h.cell (p := ⟨d1, o1, none⟩) (lt_of_cell h1)).trans h1, (h.cell (p := ⟨d2, o2, none⟩) (lt_of_cell h2)).trans h2⟩

theorem place_facts (n m i j : Nat) (hi : i < n) (hj : j < m) (hn : n ≤ 4096) (hm : m ≤ 4096) :
    (0 : Int) ≤ ((i : Int) + 1) * ((m : Int) + 1) + (j : Int) + 1 ∧ ((i : Int) + 1) * ((m : Int) + 1) + (j : Int) + 1 < ((n : Int) + 1) * ((m : Int) + 1) ∧
    (((i : Int) + 1) * ((m : Int) + 1) + (j : Int) + 1).toNat = (i + 1) * (m + 1) + j + 1 ∧ IntKind.i64.wrap (((i : Int) + 1) * ((m : Int) + 1)) = ((i : Int) + 1) * ((m : Int) + 1) ∧
    IntKind.i64.wrap (((i : Int) + 1) * ((m : Int) + 1) + (j : Int)) = ((i : Int) + 1) * ((m : Int) + 1) + (j : Int) ∧
    IntKind.i64.wrap (((i : Int) + 1) * ((m : Int) + 1) + (j : Int) + 1) = ((i : Int) + 1) * ((m : Int) + 1) + (j : Int) + 1 ∧ IntKind.i64.wrap ((i : Int) + 1) = (i : Int) + 1 ∧
    ((i : Int) + 1) * ((m : Int) + 1) + (j : Int) + 1 < (((n + 1) * (m + 1) : Nat) : Int) := by
  have h1 := places_next n m i hi
  have h2 := prod_le_int n m hn hm
  have h3 := places n m i (by omega)
  have e : ((i : Int) + 1) * ((m : Int) + 1) = (((i + 1) * (m + 1) : Nat) : Int) := (prod_cast i m).symm
  refine ⟨by omega, by omega, by rw [e]; omega, ?_, ?_, ?_, ?_, by rw [prod_cast]; omega⟩ <;> rw [IntKind.wrap_i64] <;> omega

set_option maxRecDepth 20000 in
set_option maxHeartbeats 1600000 in
theorem tabP (f g : Nat → ByteArray) (a1 a2 : Option Addr) (n m c1 c2 : Nat) (w : World) (hn : n ≤ 4096) (hm : m ≤ 4096) (hf : ∀ k, k < n → (f k).size ≤ 4096) (hg : ∀ k, k < m → (g k).size ≤ 4096)
    (r1 : StrRow w a1 n f) (r2 : StrRow w a2 m g) :
    Calls Try.prog 11 #[.slice a1 n c1, .slice a2 m c2] w fun e w' => e = .returned (.bool (partsM f g n m)) ∧ Below w.heap.size w w' := by
  have hsz := prod_le n m hn hm
  obtain ⟨hsz0, hszi⟩ := prod_le_int n m hn hm
  have hmk := fun wx => run_make_row' (P := Try.prog) 34 4 (.bool false) 1 Try.underlying34 Try.info4 rfl .i64 .i64 ((n + 1) * (m + 1)) (by omega) (by omega) wx
  rw [prod_cast] at hmk
  have HF : Hid (∀ k, k < n → (f k).size ≤ 4096) := hf
  have HG : Hid (∀ k, k < m → (g k).size ≤ 4096) := hg
  clear hf hg
  go_enter Try.func11, Try.ntmps11
  go_wp2
  clear hmk
  go_loopw [9] (fun x wr => ∃ (i : Nat) (fs : List Bool), x = .int .i64 ((i : Int) - 1) ∧ i ≤ n + 1 ∧ Own wr w.heap.size 4 (fs.map Value.bool) ∧ Done (M (starP f) (sameP f g) n m) n m fs i 0 ∧ Below w.heap.size w wr) (fun x _ => (intOf x + 1).toNat)
  case atStart => exact ⟨n + 1, _, by go_num, Nat.le_refl _, own_bools w 4 _, Done.start, (Below.refl _ _).alloc (Nat.le_refl _) _⟩
  case round =>
    obtain ⟨i', fs, rfl, hi, hown, hdone, hb⟩ := hrel
    by_cases h0 : i' = 0
    · subst h0
      have hc := hdone.get (Nat.zero_le _) (Nat.zero_le _) (.inr ⟨rfl, Nat.le_refl _⟩) hown
      rw [show 0 * (m + 1) + 0 = 0 by omega] at hc
      have hpos : 0 < (n + 1) * (m + 1) := Nat.mul_pos (by omega) (by omega)
      go_wp2
      go_ret
      exact ⟨rfl, hb⟩
    · obtain ⟨i, rfl⟩ : ∃ i, i' = i + 1 := ⟨i' - 1, by omega⟩
      have ei : (((i + 1 : Nat) : Int) - 1) = (i : Int) := by omega
      rw [ei]
      obtain ⟨q1, q2, q3, q4⟩ := places n m i (by omega)
      obtain ⟨q5, q6, q7⟩ := placesN n m i (by omega)
      clear ei
      go_wp2
      go_loopw [10] (fun x wr => ∃ (j : Nat) (fs : List Bool), x = .int .i64 ((j : Int) - 1) ∧ j ≤ m + 1 ∧ Own wr w.heap.size 4 (fs.map Value.bool) ∧ Done (M (starP f) (sameP f g) n m) n m fs i j ∧ Below w.heap.size w wr) (fun x _ => (intOf x + 1).toNat)
      case atStart => exact ⟨m + 1, fs, by go_num, Nat.le_refl _, hown, hdone.row, hb⟩
      case round =>
        clear hown hdone hb
        obtain ⟨j', fs, rfl, hj, hown, hdone, hb⟩ := hrel
        by_cases h1 : j' = 0
        · subst h1
          go_wp2
          go_roundw
          case rel => exact ⟨i, fs, by go_num, by omega, hown, hdone, hb⟩
          case measure => simp [intOf]
        · obtain ⟨j, rfl⟩ : ∃ j, j' = j + 1 := ⟨j' - 1, by omega⟩
          have ej : (((j + 1 : Nat) : Int) - 1) = (j : Int) := by omega
          rw [ej]
          clear ej
          obtain ⟨v0, hv0⟩ := hdone.old (x := i) (y := j) (by omega) (by omega) hown
          have hfr := hown.free (i * (m + 1) + j)
          by_cases hin : i = n
          · subst hin
            go_wp2
            go_roundw
            case rel => exact ⟨j, _, rfl, by omega, own_put hown _ _, hdone.put (by omega) (by omega) (by rw [M_end, beq_cast]), hb.setCell (Nat.le_refl _) _⟩
            case measure => simp [intOf]
          · have hip : i < n := by omega
            have q8 := places_next n m i hip
            have hin' : ((i : Int) == (n : Int)) = false := by simp; omega
            rcases r1 with hz | ⟨d1, o1, rfl, r1⟩
            · omega
            have hp1 : wr.cell? ⟨d1, o1 + i, none⟩ = some (.string (f i)) := (hb.cell (p := ⟨d1, o1 + i, none⟩) (lt_of_cell (r1 i hip))).trans (r1 i hip)
            clear r1
            cases hst : starP f i with
            | true =>
              have hq : ((f i).toList == [42, 42]) = true := hst
              have HST : Hid (starP f i = true) := hst
              clear hst hin
              have hA := hdone.get (x := i + 1) (y := j) (by omega) (by omega) (.inl (by omega)) hown
              by_cases hjm : j < m
              · have hB := hdone.get (x := i) (y := j + 1) (by omega) (by omega) (.inr ⟨rfl, Nat.le_refl _⟩) hown
                rw [← Nat.add_assoc] at hB
                have HV := M_star (same := sameP f g) hip hjm HST.out
                cases hF : M (starP f) (sameP f g) n m (i + 1) j with
                | true =>
                  rw [hF] at hA HV
                  have HV' : Hid (true = M (starP f) (sameP f g) n m i j) := by rw [HV]; rfl
                  clear hF HV hB
                  go_wp2
                  go_roundw
                  case rel => exact ⟨j, _, rfl, by omega, own_put hown _ _, hdone.put (by omega) (by omega) HV'.out, hb.setCell (Nat.le_refl _) _⟩
                  case measure => simp [intOf]
                | false =>
                  rw [hF] at hA HV
                  have HV' : Hid (M (starP f) (sameP f g) n m i (j + 1) = M (starP f) (sameP f g) n m i j) := by rw [HV]; rfl
                  clear hF HV
                  go_wp2
                  go_roundw
                  case rel => exact ⟨j, _, rfl, by omega, own_put hown _ _, hdone.put (by omega) (by omega) HV'.out, hb.setCell (Nat.le_refl _) _⟩
                  case measure => simp [intOf]
              · obtain rfl : j = m := by omega
                have HV' : Hid (M (starP f) (sameP f g) n j (i + 1) j = M (starP f) (sameP f g) n j i j) := (M_star_end hip HST.out).symm
                cases hF : M (starP f) (sameP f g) n j (i + 1) j with
                | true =>
                  rw [hF] at hA
                  have HV2 : Hid (true = M (starP f) (sameP f g) n j i j) := by rw [← HV'.out, hF]; rfl
                  clear hF
                  go_wp2
                  go_roundw
                  case rel => exact ⟨j, _, rfl, by omega, own_put hown _ _, hdone.put (by omega) (by omega) HV2.out, hb.setCell (Nat.le_refl _) _⟩
                  case measure => simp [intOf]
                | false =>
                  rw [hF] at hA
                  have HV2 : Hid (false = M (starP f) (sameP f g) n j i j) := by rw [← HV'.out, hF]; rfl
                  clear hF
                  go_wp2
                  go_roundw
                  case rel => exact ⟨j, _, rfl, by omega, own_put hown _ _, hdone.put (by omega) (by omega) HV2.out, hb.setCell (Nat.le_refl _) _⟩
                  case measure => simp [intOf]
            | false =>
              have hq : ((f i).toList == [42, 42]) = false := hst
              have HST : Hid (starP f i = false) := hst
              clear hst hin
              by_cases hjm : j < m
              · have hA := hdone.get (x := i + 1) (y := j + 1) (by omega) (by omega) (.inl (by omega)) hown
                rw [← Nat.add_assoc] at hA
                have HV := M_same (same := sameP f g) hip hjm HST.out
                have hip' : (i : Int) < (n : Int) := by omega
                have hjm' : (j : Int) < (m : Int) := by omega
                have hi0' : (0 : Int) ≤ (i : Int) := by omega
                have hj0' : (0 : Int) ≤ (j : Int) := by omega
                rcases r2 with hz | ⟨d2, o2, rfl, r2⟩
                · omega
                have hp2 : wr.cell? ⟨d2, o2 + j, none⟩ = some (.string (g j)) := (hb.cell (p := ⟨d2, o2 + j, none⟩) (lt_of_cell (r2 j hjm))).trans (r2 j hjm)
                clear r2
                cases hF : M (starP f) (sameP f g) n m (i + 1) (j + 1) with
                | true =>
                  rw [hF] at hA HV
                  have HV' : Hid (compM (f i) (g j) = M (starP f) (sameP f g) n m i j) := by rw [HV, Bool.and_true]; rfl
                  clear hF HV
                  have hlt := hown.lt
                  obtain ⟨k0, k1, k2, k3, k4, k5, k6, k7⟩ := place_facts n m i j hip hjm hn hm
                  go_wp2
                  go_region_held3 (fun w' => Below wr.heap.size wr w' ∧ w'.cell? ⟨w.heap.size, (i + 1) * (m + 1) + j + 1, none⟩ = some (.bool true) ∧ w'.cell? ⟨d1, o1 + i, none⟩ = some (.string (f i)) ∧ w'.cell? ⟨d2, o2 + j, none⟩ = some (.string (g j))) (first | exact ⟨(Below.refl _ _).drew, hA, hp1, hp2⟩ | exact mkT (by assumption) hA hp1 hp2) (first | (go_at_call 14; refine (tabC _ _ _ (HF.out i hip) (HG.out j hjm)).mono ?_; rintro e w' ⟨rfl, hb1⟩; have hb' := below_step (w := wr) (Below.refl _ wr).drew hb1))
                  have hv1 := (hb'.cell (p := ⟨w.heap.size, i * (m + 1) + j, none⟩) hlt).trans hv0
                  have hf1 := (hb'.frozen (p := ⟨w.heap.size, i * (m + 1) + j, none⟩) hlt).trans hfr
                  clear k0 k1 k2 k3 k4 k5 k6 k7 hv0 hfr
                  go_wp2
                  go_roundw
                  case rel => exact ⟨j, _, rfl, by omega, own_put (hown.below hb' hlt) _ _, hdone.put (by omega) (by omega) HV'.out, (hb.trans (hb'.mono (by omega))).setCell (Nat.le_refl _) _⟩
                  case measure => simp [intOf]
                | false =>
                  rw [hF] at hA HV
                  have HV' : Hid (false = M (starP f) (sameP f g) n m i j) := by rw [HV, Bool.and_false]; rfl
                  clear hF HV
                  go_wp2
                  go_quiet (fail)
                  go_wp2
                  go_roundw
                  case rel => exact ⟨j, _, rfl, by omega, own_put (hown.drewN _) _ _, hdone.put (by omega) (by omega) HV'.out, (below_drewN hb _).setCell (Nat.le_refl _) _⟩
                  case measure => simp [intOf]
              · obtain rfl : j = m := by omega
                have HV' : Hid (false = M (starP f) (sameP f g) n j i j) := (M_same_end hip HST.out).symm
                have hjm' : decide ((j : Int) < (j : Int)) = false := by simp
                go_wp2
                go_quiet (fail)
                go_wp2
                go_roundw
                case rel => exact ⟨j, _, rfl, by omega, own_put (hown.drewN _) _ _, hdone.put (by omega) (by omega) HV'.out, (below_drewN hb _).setCell (Nat.le_refl _) _⟩
                case measure => simp [intOf]
end Go.Proofs.Qxb6602868a
