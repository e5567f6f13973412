/-
  zzCompMatch (14): the table over the bytes of a component.
-/
import Derived.Test.Qxb6602868aMatch
import Derived.Test.Qxb6602868aTab
namespace Go.Proofs.Qxb6602868a
open Go.ChangeShapes Go.WideShapes Go.ChangeAt Go.RowKit Pl
set_option linter.unusedVariables false

theorem prod_cast (n m : Nat) : (((n + 1) * (m + 1) : Nat) : Int) = ((n : Int) + 1) * ((m : Int) + 1) := by
  rw [Int.natCast_mul, Int.natCast_add, Int.natCast_add]
  rfl
theorem prod_le (n m : Nat) (hn : n ≤ 4096) (hm : m ≤ 4096) : (n + 1) * (m + 1) ≤ 16785409 := Nat.mul_le_mul (show n + 1 ≤ 4097 by omega) (show m + 1 ≤ 4097 by omega)
theorem prod_le_int (n m : Nat) (hn : n ≤ 4096) (hm : m ≤ 4096) : 0 ≤ ((n : Int) + 1) * ((m : Int) + 1) ∧ ((n : Int) + 1) * ((m : Int) + 1) ≤ 16785409 := by
  rw [← prod_cast]
  have := prod_le n m hn hm
  omega
/-- What the walk must know of the places' numbers. -/
theorem places (n m i : Nat) (hi : i ≤ n) : 0 ≤ (i : Int) * ((m : Int) + 1) ∧ (i : Int) * ((m : Int) + 1) + ((m : Int) + 1) ≤ ((n : Int) + 1) * ((m : Int) + 1) ∧
    ((i : Int) + 1) * ((m : Int) + 1) ≤ (i : Int) * ((m : Int) + 1) + ((m : Int) + 1) ∧ (i : Int) * ((m : Int) + 1) + ((m : Int) + 1) ≤ ((i : Int) + 1) * ((m : Int) + 1) := by
  have e : ((i : Int) + 1) * ((m : Int) + 1) = (i : Int) * ((m : Int) + 1) + ((m : Int) + 1) := by rw [Int.add_mul, Int.one_mul]
  have h0 : 0 ≤ (i : Int) * ((m : Int) + 1) := Int.mul_nonneg (by omega) (by omega)
  have h1 : ((i : Int) + 1) * ((m : Int) + 1) ≤ ((n : Int) + 1) * ((m : Int) + 1) := Int.mul_le_mul_of_nonneg_right (by omega) (by omega)
  omega
theorem places_next (n m i : Nat) (hi : i < n) : ((i : Int) + 1) * ((m : Int) + 1) + ((m : Int) + 1) ≤ ((n : Int) + 1) * ((m : Int) + 1) := by
  have h1 : ((i : Int) + 1 + 1) * ((m : Int) + 1) ≤ ((n : Int) + 1) * ((m : Int) + 1) := Int.mul_le_mul_of_nonneg_right (by omega) (by omega)
  rw [Int.add_mul ((i : Int) + 1), Int.one_mul] at h1
  exact h1
theorem placesN (n m i : Nat) (hi : i ≤ n) : i * (m + 1) + (m + 1) ≤ (n + 1) * (m + 1) ∧ (i + 1) * (m + 1) ≤ i * (m + 1) + (m + 1) ∧ i * (m + 1) + (m + 1) ≤ (i + 1) * (m + 1) := by
  have e : (i + 1) * (m + 1) = i * (m + 1) + (m + 1) := Nat.succ_mul _ _
  have h1 : (i + 1) * (m + 1) ≤ (n + 1) * (m + 1) := Nat.mul_le_mul_right _ (by omega)
  omega

theorem beq_cast (a b : Nat) : ((a : Int) == (b : Int)) = (a == b) := by
  rw [Bool.eq_iff_iff]
  simp only [beq_iff_eq]
  omega

set_option maxRecDepth 20000 in
set_option maxHeartbeats 1600000 in
theorem tabC (p s : ByteArray) (w : World) (hp : p.size ≤ 4096) (hs : s.size ≤ 4096) :
    Calls Try.prog 14 #[.string p, .string s] w fun e w' => e = .returned (.bool (compM p s)) ∧ Below w.heap.size w w' := by
  have hsz := prod_le p.size s.size hp hs
  obtain ⟨hsz0, hszi⟩ := prod_le_int p.size s.size hp hs
  have hmk := fun wx => run_make_row' (P := Try.prog) 34 4 (.bool false) 1 Try.underlying34 Try.info4 rfl .i64 .i64 ((p.size + 1) * (s.size + 1)) (by omega) (by omega) wx
  rw [prod_cast] at hmk
  go_enter Try.func14, Try.ntmps14
  go_wp2
  clear hmk
  go_loopw [9] (fun x wr => ∃ (i : Nat) (fs : List Bool), x = .int .i64 ((i : Int) - 1) ∧ i ≤ p.size + 1 ∧ Own wr w.heap.size 4 (fs.map Value.bool) ∧ Done (M (starB p) (sameB p s) p.size s.size) p.size s.size fs i 0 ∧ Below w.heap.size w wr) (fun x _ => (intOf x + 1).toNat)
  case atStart => exact ⟨p.size + 1, _, by go_num, Nat.le_refl _, own_bools w 4 _, Done.start, (Below.refl _ _).alloc (Nat.le_refl _) _⟩
  case round =>
    obtain ⟨i', fs, rfl, hi, hown, hdone, hb⟩ := hrel
    by_cases h0 : i' = 0
    · subst h0
      have hc := hdone.get (Nat.zero_le _) (Nat.zero_le _) (.inr ⟨rfl, Nat.le_refl _⟩) hown
      rw [show 0 * (s.size + 1) + 0 = 0 by omega] at hc
      have hpos : 0 < (p.size + 1) * (s.size + 1) := Nat.mul_pos (by omega) (by omega)
      go_wp2
      go_ret
      exact ⟨rfl, hb⟩
    · obtain ⟨i, rfl⟩ : ∃ i, i' = i + 1 := ⟨i' - 1, by omega⟩
      have ei : (((i + 1 : Nat) : Int) - 1) = (i : Int) := by omega
      rw [ei]
      obtain ⟨q1, q2, q3, q4⟩ := places p.size s.size i (by omega)
      obtain ⟨q5, q6, q7⟩ := placesN p.size s.size i (by omega)
      clear ei
      go_wp2
      go_loopw [10] (fun x wr => ∃ (j : Nat) (fs : List Bool), x = .int .i64 ((j : Int) - 1) ∧ j ≤ s.size + 1 ∧ Own wr w.heap.size 4 (fs.map Value.bool) ∧ Done (M (starB p) (sameB p s) p.size s.size) p.size s.size fs i j ∧ Below w.heap.size w wr) (fun x _ => (intOf x + 1).toNat)
      case atStart => exact ⟨s.size + 1, fs, by go_num, Nat.le_refl _, hown, hdone.row, hb⟩
      case round =>
        clear hown hdone hb
        obtain ⟨j', fs, rfl, hj, hown, hdone, hb⟩ := hrel
        by_cases h1 : j' = 0
        · subst h1
          go_wp2
          go_roundw
          case rel => exact ⟨i, fs, by go_num, by omega, hown, hdone, hb⟩
          case measure => simp [intOf]
        · obtain ⟨j, rfl⟩ : ∃ j, j' = j + 1 := ⟨j' - 1, by omega⟩
          have ej : (((j + 1 : Nat) : Int) - 1) = (j : Int) := by omega
          rw [ej]
          clear ej
          obtain ⟨v0, hv0⟩ := hdone.old (x := i) (y := j) (by omega) (by omega) hown
          have hfr := hown.free (i * (s.size + 1) + j)
          by_cases hin : i = p.size
          · subst hin
            go_wp2
            go_roundw
            case rel => exact ⟨j, _, rfl, by omega, own_put hown _ _, hdone.put (by omega) (by omega) (by rw [M_end, beq_cast]), hb.setCell (Nat.le_refl _) _⟩
            case measure => simp [intOf]
          · have hip : i < p.size := by omega
            have q8 := places_next p.size s.size i hip
            have hin' : ((i : Int) == (p.size : Int)) = false := by simp; omega
            cases hst : starB p i with
            | true =>
              have hq : ((p[i].toNat : Int) == 42) = true := by rw [← hst]; unfold starB; rw [bAt_eq p i hip]
              have HST : Hid (starB p i = true) := hst
              clear hst hin
              have hA := hdone.get (x := i + 1) (y := j) (by omega) (by omega) (.inl (by omega)) hown
              by_cases hjm : j < s.size
              · have hB := hdone.get (x := i) (y := j + 1) (by omega) (by omega) (.inr ⟨rfl, Nat.le_refl _⟩) hown
                rw [← Nat.add_assoc] at hB
                have HV := M_star (same := sameB p s) hip hjm HST.out
                cases hF : M (starB p) (sameB p s) p.size s.size (i + 1) j with
                | true =>
                  rw [hF] at hA HV
                  have HV' : Hid (true = M (starB p) (sameB p s) p.size s.size i j) := by rw [HV]; rfl
                  clear hF HV hB
                  go_wp2
                  go_roundw
                  case rel => exact ⟨j, _, rfl, by omega, own_put hown _ _, hdone.put (by omega) (by omega) HV'.out, hb.setCell (Nat.le_refl _) _⟩
                  case measure => simp [intOf]
                | false =>
                  rw [hF] at hA HV
                  have HV' : Hid (M (starB p) (sameB p s) p.size s.size i (j + 1) = M (starB p) (sameB p s) p.size s.size i j) := by rw [HV]; rfl
                  clear hF HV
                  go_wp2
                  go_roundw
                  case rel => exact ⟨j, _, rfl, by omega, own_put hown _ _, hdone.put (by omega) (by omega) HV'.out, hb.setCell (Nat.le_refl _) _⟩
                  case measure => simp [intOf]
              · obtain rfl : j = s.size := by omega
                have HV' : Hid (M (starB p) (sameB p s) p.size s.size (i + 1) s.size = M (starB p) (sameB p s) p.size s.size i s.size) := (M_star_end hip HST.out).symm
                cases hF : M (starB p) (sameB p s) p.size s.size (i + 1) s.size with
                | true =>
                  rw [hF] at hA
                  have HV2 : Hid (true = M (starB p) (sameB p s) p.size s.size i s.size) := by rw [← HV'.out, hF]; rfl
                  clear hF
                  go_wp2
                  go_roundw
                  case rel => exact ⟨s.size, _, rfl, by omega, own_put hown _ _, hdone.put (by omega) (by omega) HV2.out, hb.setCell (Nat.le_refl _) _⟩
                  case measure => simp [intOf]
                | false =>
                  rw [hF] at hA
                  have HV2 : Hid (false = M (starB p) (sameB p s) p.size s.size i s.size) := by rw [← HV'.out, hF]; rfl
                  clear hF
                  go_wp2
                  go_roundw
                  case rel => exact ⟨s.size, _, rfl, by omega, own_put hown _ _, hdone.put (by omega) (by omega) HV2.out, hb.setCell (Nat.le_refl _) _⟩
                  case measure => simp [intOf]
            | false =>
              have hq : ((p[i].toNat : Int) == 42) = false := by rw [← hst]; unfold starB; rw [bAt_eq p i hip]
              have HST : Hid (starB p i = false) := hst
              clear hst hin
              by_cases hjm : j < s.size
              · have hA := hdone.get (x := i + 1) (y := j + 1) (by omega) (by omega) (.inl (by omega)) hown
                rw [← Nat.add_assoc] at hA
                have HV := M_same (same := sameB p s) hip hjm HST.out
                have hip' : (i : Int) < (p.size : Int) := by omega
                have hjm' : (j : Int) < (s.size : Int) := by omega
                cases hsm : sameB p s i j with
                | true =>
                  have hq2 : ((p[i].toNat : Int) == (s[j].toNat : Int)) = true := by rw [← hsm]; unfold sameB; rw [bAt_eq p i hip, bAt_eq s j hjm]
                  rw [hsm] at HV
                  have HV' : Hid (M (starB p) (sameB p s) p.size s.size (i + 1) (j + 1) = M (starB p) (sameB p s) p.size s.size i j) := by rw [HV]; rfl
                  clear hsm HV
                  go_wp2
                  go_quiet (fail)
                  go_wp2
                  go_roundw
                  case rel => exact ⟨j, _, rfl, by omega, own_put (hown.drewN _) _ _, hdone.put (by omega) (by omega) HV'.out, (below_drewN hb _).setCell (Nat.le_refl _) _⟩
                  case measure => simp [intOf]
                | false =>
                  have hq2 : ((p[i].toNat : Int) == (s[j].toNat : Int)) = false := by rw [← hsm]; unfold sameB; rw [bAt_eq p i hip, bAt_eq s j hjm]
                  rw [hsm] at HV
                  have HV' : Hid (false = M (starB p) (sameB p s) p.size s.size i j) := by rw [HV]; rfl
                  clear hsm HV
                  go_wp2
                  go_quiet (fail)
                  go_wp2
                  go_roundw
                  case rel => exact ⟨j, _, rfl, by omega, own_put (hown.drewN _) _ _, hdone.put (by omega) (by omega) HV'.out, (below_drewN hb _).setCell (Nat.le_refl _) _⟩
                  case measure => simp [intOf]
              · obtain rfl : j = s.size := by omega
                have HV' : Hid (false = M (starB p) (sameB p s) p.size s.size i s.size) := (M_same_end hip HST.out).symm
                have hjm' : decide ((s.size : Int) < (s.size : Int)) = false := by simp
                go_wp2
                go_quiet (fail)
                go_wp2
                go_roundw
                case rel => exact ⟨s.size, _, rfl, by omega, own_put (hown.drewN _) _ _, hdone.put (by omega) (by omega) HV'.out, (below_drewN hb _).setCell (Nat.le_refl _) _⟩
                case measure => simp [intOf]
end Go.Proofs.Qxb6602868a
