/-
  ZZLowestOnCycle (27).
-/
import Derived.Test.Qxb6603020aTwalk
import Derived.Test.Qxb6603020aLoose
namespace Go.Proofs.Qxb6603020a
open Go.ChangeShapes Go.WideShapes Go.ChangeAt Go.RowKit Pl
set_option linter.unusedVariables false

theorem GM.below {w w' : World} {ao : Option Addr} {lo : Nat} {aa : Option Addr} {la n : Nat} {out pos : Nat → Nat} (G : GM w w.heap.size ao lo aa la n out pos) (hb : Below w.heap.size w w') : GM w' w'.heap.size ao lo aa la n out pos := by
  have hs := hb.size
  refine ⟨G.csr, G.small, G.lens, fun h => ?_, fun h e h1 h2 => ?_⟩
  · obtain ⟨b, o, h1, h2, h3⟩ := G.at_ h
    exact ⟨b, o, h1, by omega, fun v hv => (hb.cell (p := ⟨b, o + v, none⟩) h2).trans (h3 v hv)⟩
  · obtain ⟨b, o, h3, h4, h5⟩ := G.out_ h e h1 h2
    exact ⟨b, o, h3, by omega, (hb.cell (p := ⟨b, o + e, none⟩) h4).trans h5⟩

/-- The graph that the two rows spell. -/
theorem gm_of {w : World} {n : Nat} {ao : Option Addr} {lo : Nat} {aa : Option Addr} {la : Nat} {zo za : Nat → Int} (hL : 0 < n → Loose n lo la zo za) (hO : IntRow w .i32 ao lo zo) (hA : IntRow w .i64 aa la za) (n1 : n ≤ 4096) (n2 : lo ≤ 65536) (n3 : la ≤ 8192) :
    GM w w.heap.size ao lo aa la n (fun e => (zo e).toNat) (fun v => (za v).toNat) := by
  have pos : 0 < n → ∀ v, v ≤ n → 0 ≤ za v := fun h v hv => by
    have L := hL h
    induction v with
    | zero => exact L.first
    | succ v ih => exact Int.le_trans (ih (by omega)) (L.mono v (by omega))
  refine ⟨⟨fun v hv => ?_, fun e h1 h2 => ?_⟩, ⟨n1, n2, n3⟩, fun h => ?_, fun h => ?_, fun h e h1 h2 => ?_⟩
  · have L := hL (by omega)
    have := L.mono v hv
    show (za v).toNat ≤ (za (v + 1)).toNat
    omega
  · by_cases h : 0 < n
    · have L := hL h
      have p0 := pos h 0 (by omega)
      have h1' : (za 0).toNat ≤ e := h1
      have h2' : e < (za n).toNat := h2
      have := L.tg e (by omega) (by omega)
      show (zo e).toNat < n
      omega
    · obtain rfl : n = 0 := by omega
      omega
  · have L := hL h
    have h1 := L.len
    have h2 := L.last
    refine ⟨h1, ?_⟩
    show (za n).toNat ≤ lo
    omega
  · have L := hL h
    have h1 := L.len
    rcases hA with h0 | ⟨b, o, rfl, hc⟩
    · omega
    · refine ⟨b, o, rfl, lt_of_cell (hc 0 (by omega)), fun v hv => ?_⟩
      rw [hc v (by omega)]
      show some (Value.int .i64 (za v)) = some (Value.int .i64 (((za v).toNat : Nat) : Int))
      rw [Int.toNat_of_nonneg (pos h v hv)]
  · have L := hL h
    have p0 := pos h 0 (by omega)
    have l2 := L.last
    have h1' : (za 0).toNat ≤ e := h1
    have h2' : e < (za n).toNat := h2
    have ht := L.tg e (by omega) (by omega)
    rcases hO with h0 | ⟨b, o, rfl, hc⟩
    · omega
    · refine ⟨b, o, rfl, lt_of_cell (hc e (by omega)), ?_⟩
      rw [hc e (by omega)]
      show some (Value.int .i32 (zo e)) = some (Value.int .i32 (((zo e).toNat : Nat) : Int))
      rw [Int.toNat_of_nonneg ht.1]

set_option maxHeartbeats 800000 in
theorem zz_any (n : Nat) (at_ : Option Addr) (ct : Nat) (ao : Option Addr) (lo co : Nat) (ai : Option Addr) (li ci : Nat) (aa : Option Addr) (la ca : Nat) (ab : Option Addr) (lb cb : Nat) (out pos : Nat → Nat) (w : World) (hG : GM w w.heap.size ao lo aa la n out pos) (hF : Fresh ao lo co) :
    Calls Try.prog 27 #[.slice at_ n ct, .slice ao lo co, .slice ai li ci, .slice aa la ca, .slice ab lb cb] w fun e w' => LowRet e (EC n out pos) n ∧ Below w.heap.size w w' := by
  have HG : Hid (GM w w.heap.size ao lo aa la n out pos) := hG
  have HF : Hid (Fresh ao lo co) := hF
  clear hG hF
  go_enter Try.func27, Try.ntmps27
  go_wp2_with fail
  have hb0 : Below w.heap.size w (w.alloc (.cells #[.slice at_ n ct, .slice ao lo co, .slice ai li ci, .slice aa la ca, .slice ab lb cb] 61)) := (Below.refl _ _).alloc (Nat.le_refl _) _
  have hO := Own.new w 61 [.slice at_ n ct, .slice ao lo co, .slice ai li ci, .slice aa la ca, .slice ab lb cb]
  refine (tarjan_any w.heap.size n at_ ct ao lo co aa la ca out pos _ (HG.out.below hb0) HF.out (hO.cell 0) (hO.cell 1) (hO.cell 3)).mono ?_
  rintro e w1 ⟨⟨r, rfl, hr⟩, hb1⟩
  have HR : Hid (Low (EC n out pos) (fun x => x < n) r) := hr
  have HB : Hid (Below w.heap.size w w1) := hb0.trans (hb1.mono hb0.size)
  clear hr hb0 hb1 hO
  go_wp2_with fail
  go_ret
  exact ⟨⟨r, rfl, HR.out⟩, HB.out⟩
end Go.Proofs.Qxb6603020a
