/-
  zzLooseCSR (26).
-/
import Derived.Test.Qxb6603020aLeaf
import Derived.Deep.LoopGhost
import Derived.Deep.DeepCutAuto
namespace Go.Proofs.Qxb6603020a
open Go.ChangeShapes Go.WideShapes Go.ChangeAt Go.RowKit Pl
set_option linter.unusedVariables false

set_option maxHeartbeats 1600000 in
theorem loose_any (n : Nat) (ao : Option Addr) (lo co : Nat) (aa : Option Addr) (la ca : Nat) (zo za : Nat → Int) (w : World) (hO : IntRow w .i32 ao lo zo) (hA : IntRow w .i64 aa la za)
    (n1 : n ≤ 4096) (n2 : lo ≤ 65536) (n3 : la ≤ 8192) (hz : ∀ k, -2147483648 ≤ zo k ∧ zo k ≤ 2147483647) :
    Calls Try.prog 26 #[.int .i64 n, .slice ao lo co, .slice aa la ca] w fun e w' => LooseRet e (0 < n → Loose n lo la zo za) ∧ Below w.heap.size w w' := by
  have HO : Hid (IntRow w .i32 ao lo zo) := hO
  have HA : Hid (IntRow w .i64 aa la za) := hA
  have HZ : Hid (∀ k, -2147483648 ≤ zo k ∧ zo k ≤ 2147483647) := hz
  clear hO hA hz
  by_cases hn0 : n = 0
  · subst hn0
    go_enter Try.func26, Try.ntmps26
    go_wp2_with fail
    go_ret
    exact ⟨⟨true, rfl, fun _ h => absurd h (by omega)⟩, Below.refl _ _⟩
  by_cases hl : la < n + 1
  · go_enter Try.func26, Try.ntmps26
    go_wp2_with fail
    go_ret
    exact ⟨⟨false, rfl, fun h => (nomatch h)⟩, Below.refl _ _⟩
  rcases HA.out with h0 | ⟨ba, oa, rfl, hat⟩
  · omega
  have HAT : Hid (∀ i, i < la → w.cell? ⟨ba, oa + i, none⟩ = some (.int .i64 (za i))) := hat
  have hba := lt_of_cell (hat 0 (by omega))
  have c0 := hat 0 (by omega)
  have cn := hat n (by omega)
  rw [Nat.add_zero] at c0
  clear hat
  by_cases h00 : za 0 < 0
  · go_enter Try.func26, Try.ntmps26
    go_wp2_with fail
    go_ret
    exact ⟨⟨false, rfl, fun h => (nomatch h)⟩, Below.refl _ _⟩
  by_cases h0n : za n > lo
  · go_enter Try.func26, Try.ntmps26
    go_wp2_with fail
    go_ret
    exact ⟨⟨false, rfl, fun h => (nomatch h)⟩, Below.refl _ _⟩
  go_enter Try.func26, Try.ntmps26
  go_wp2_with fail
  go_loopg [7] n (fun z s7 wr => ∃ v, z = n - v ∧ v ≤ n ∧ s7 = .int .i64 (v : Nat) ∧ (∀ u, u < v → za u ≤ za (u + 1)) ∧ Below w.heap.size w wr)
  case atStart => exact ⟨0, rfl, Nat.zero_le _, rfl, fun u h => absurd h (by omega), Below.refl _ _⟩
  case round =>
    obtain ⟨v, rfl, hvn, rfl, hm, hb⟩ := hrel
    have HM : Hid (∀ u, u < v → za u ≤ za (u + 1)) := hm
    have HB : Hid (Below w.heap.size w wr) := hb
    clear hm
    by_cases hlt : v < n
    · have c1 := (hb.cell (p := ⟨ba, oa + v, none⟩) hba).trans (HAT.out v (by omega))
      have c2 := (hb.cell (p := ⟨ba, oa + (v + 1), none⟩) hba).trans (HAT.out (v + 1) (by omega))
      clear hb
      go_wp2_with fail
      go_quiet (fail)
      by_cases hle : za v ≤ za (v + 1)
      · go_wp2_with fail
        go_roundg (n - (v + 1))
        case measure => omega
        case rel => exact ⟨v + 1, rfl, by omega, by go_num, fun u hu => by
            by_cases e : u = v
            · rw [e]; exact hle
            · exact HM.out u (by omega), below_drewN HB.out _⟩
      · go_wp2_with fail
        go_ret
        exact ⟨⟨false, rfl, fun h => (nomatch h)⟩, below_drewN HB.out _⟩
    · obtain rfl : v = n := by omega
      have c1 := (hb.cell (p := ⟨ba, oa, none⟩) hba).trans c0
      clear hb
      go_wp2_with fail
      go_loopg [8] ((za v).toNat - (za 0).toNat) (fun z s8 wr => ∃ e, z = (za v).toNat - e ∧ (za 0).toNat ≤ e ∧ s8 = .int .i64 (e : Nat) ∧ (∀ k : Nat, za 0 ≤ k → k < e → (k : Int) < za v → 0 ≤ zo k ∧ zo k < v) ∧ Below w.heap.size w wr)
      case atStart => exact ⟨(za 0).toNat, rfl, Nat.le_refl _, by rw [Int.toNat_of_nonneg (by omega)], fun k h1 h2 => absurd h2 (by omega), HB.out⟩
      case round =>
        clear c1 HB
        obtain ⟨e, rfl, he, rfl, ht, hb⟩ := hrel
        have HT : Hid (∀ k : Nat, za 0 ≤ k → k < e → (k : Int) < za v → 0 ≤ zo k ∧ zo k < v) := ht
        have HB : Hid (Below w.heap.size w wr) := hb
        have c2 := (hb.cell (p := ⟨ba, oa + v, none⟩) hba).trans cn
        clear ht
        by_cases hel : (e : Int) < za v
        · rcases HO.out with h0 | ⟨bo, oo, rfl, hoc⟩
          · omega
          have c3 := (hb.cell (p := ⟨bo, oo + e, none⟩) (lt_of_cell (hoc e (by omega)))).trans (hoc e (by omega))
          obtain ⟨z1, z2⟩ := HZ.out e
          clear hb hoc
          by_cases q1 : zo e < 0
          · go_wp2_with fail
            go_ret
            exact ⟨⟨false, rfl, fun h => (nomatch h)⟩, HB.out⟩
          · by_cases q2 : zo e < v
            · go_wp2_with fail
              go_roundg ((za v).toNat - (e + 1))
              case measure => omega
              case rel => exact ⟨e + 1, rfl, by omega, by go_num, fun k h1 h2 h3 => by
                  by_cases q : k = e
                  · rw [q]; omega
                  · exact HT.out k h1 (by omega) h3, HB.out⟩
            · go_wp2_with fail
              go_ret
              exact ⟨⟨false, rfl, fun h => (nomatch h)⟩, HB.out⟩
        · clear hb
          go_wp2_with fail
          go_ret
          exact ⟨⟨true, rfl, fun _ _ => ⟨by omega, by omega, by omega, HM.out, fun k h1 h2 => HT.out k h1 (by omega) h2⟩⟩, HB.out⟩
end Go.Proofs.Qxb6603020a
