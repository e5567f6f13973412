/-
  The first pass's steps: the plain invariant and the memory together.
-/
import Derived.Test.Qxb6603020aKmem
namespace Go.Proofs.Qxb6603020a
open Go.RowKit Pl

variable {w wr w1 : World} {n : Nat} {out pos : Nat → Nat} {s : Nat} {seen : Nat → Bool} {ord pre : List Nat} {nx : Nat → Nat} {v : Nat}

theorem getLastI (l : List Int) (x : Int) : (l ++ [x])[l.length]? = some x := by simp

structure KTop (w wr : World) (n : Nat) (pos : Nat → Nat) (seen : Nat → Bool) (ord pre : List Nat) (nx : Nat → Nat) (v : Nat) : Prop where
  vn : v < n
  vp : v ∉ pre
  nb : nx v ≤ degC pos v
  vc : wr.cell? ⟨w.heap.size + 1 + 1, pre.length, none⟩ = some (.int .i64 v)
  ec : wr.cell? ⟨w.heap.size + 1 + 1 + 1, pre.length, none⟩ = some (.int .i64 ((pos v + nx v : Nat) : Int))
  sv : seen v = true
  le : ord.length + (pre.length + 1) ≤ n

theorem KN.top (K : KN w wr n out pos s seen ord (pre ++ [v]) nx) : KTop w wr n pos seen ord pre nx v := by
  have hm : v ∈ pre ++ [v] := by simp
  have hn := K.ki.sb v hm
  refine ⟨hn, ?_, K.ki.nb v hm, ?_, ?_, (K.ki.so v hn).2 (.inr hm), ?_⟩
  · have := (List.nodup_append.1 K.ki.nd).2.1
    rw [List.nodup_append] at this
    exact fun h => this.2.2 v h v (by simp) rfl
  · refine K.km.hv.cell ?_
    rw [cl_append, cl_one]
    have := getLastI (cl pre) v
    rwa [cl_len] at this
  · refine K.km.he.cell ?_
    rw [eL_append]
    have := getLastI (eL pos nx pre) ((pos v + nx v : Nat) : Int)
    rwa [eL_len] at this
  · have h1 := cb_le seen n
    have h2 := K.ct
    simp at h2
    omega

theorem eL_set (hv : v ∉ pre) : (eL pos nx (pre ++ [v])).set pre.length ((pos v + (nx v + 1) : Nat) : Int) = eL pos (upd nx v (nx v + 1)) (pre ++ [v]) := by
  rw [eL_append, eL_append, List.set_append_right _ _ (by rw [eL_len]; exact Nat.le_refl _), eL_len, Nat.sub_self]
  rw [eL_congr (nx := upd nx v (nx v + 1)) (nx' := nx) (l := pre) (fun x hx => upd_other _ _ (fun q => hv (by rw [← q]; exact hx)))]
  have e : eL pos (upd nx v (nx v + 1)) [v] = [((pos v + (nx v + 1) : Nat) : Int)] := by unfold eL; simp [upd_same]
  rw [e]
  rfl

theorem KN.pop (K : KN w wr n out pos s seen ord (pre ++ [v]) nx) (he : ¬ pos v + nx v < pos (v + 1))
    (M : KM w w1 n seen (cl ord ++ [(v : Int)]) (cl (pre ++ [v])) (eL pos nx (pre ++ [v]))) : KN w w1 n out pos s seen (ord ++ [v]) pre nx := by
  have hb := K.top.nb
  have hd : nx v = degC pos v := by unfold degC at hb ⊢; omega
  refine ⟨K.ki.pop hd, ?_, K.sn, by rw [K.ct]; simp; omega⟩
  rw [cl_append, eL_append] at M
  rw [cl_append, cl_one]
  exact M.popVE

theorem KN.next (K : KN w wr n out pos s seen ord (pre ++ [v]) nx) (he : pos v + nx v < pos (v + 1)) (hs : seen (out (pos v + nx v)) = true)
    (M : KM w w1 n seen (cl ord) (cl (pre ++ [v])) ((eL pos nx (pre ++ [v])).set pre.length ((pos v + (nx v + 1) : Nat) : Int))) :
    KN w w1 n out pos s seen ord (pre ++ [v]) (upd nx v (nx v + 1)) := by
  have hd : nx v < degC pos v := by unfold degC; omega
  rw [eL_set K.top.vp] at M
  exact ⟨K.ki.next hd hs, M, K.sn, K.ct⟩

theorem KN.push (C : Csr n out pos) (K : KN w wr n out pos s seen ord (pre ++ [v]) nx) (he : pos v + nx v < pos (v + 1)) {x : Nat} (hx : out (pos v + nx v) = x) (hs : seen x = false)
    (M : KM w w1 n (upd seen x true) (cl ord) (cl (pre ++ [v]) ++ [(x : Int)]) ((eL pos nx (pre ++ [v])).set pre.length ((pos v + (nx v + 1) : Nat) : Int) ++ [(pos x : Int)])) :
    KN w w1 n out pos s (upd seen x true) ord (pre ++ [v] ++ [x]) (upd (upd nx v (nx v + 1)) x 0) := by
  have hd : nx v < degC pos v := by unfold degC; omega
  have T := K.top
  have hxn : x < n := by rw [← hx]; exact C.lt T.vn hd
  have hvx : v ≠ x := fun q => by have := T.sv; rw [q, hs] at this; cases this
  have hxp : x ∉ pre ++ [v] := fun q => by have := (K.ki.so x hxn).2 (.inr q); rw [hs] at this; cases this
  rw [eL_set T.vp] at M
  refine ⟨K.ki.push hxn hs _ (upd_same _ _ _) (.inr ⟨pre, v, rfl, hd, hx, hvx, rfl⟩), ?_, fun y hy => ?_, ?_⟩
  · rw [cl_append (pre ++ [v]), cl_one, eL_append _ _ (pre ++ [v]), eL_congr (nx := upd (upd nx v (nx v + 1)) x 0) (nx' := upd nx v (nx v + 1)) (l := pre ++ [v]) (fun y hy => upd_other _ _ (fun q => hxp (by rw [← q]; exact hy)))]
    have e : eL pos (upd (upd nx v (nx v + 1)) x 0) [x] = [(pos x : Int)] := by unfold eL; simp [upd_same]
    rw [e]
    exact M
  · by_cases e : y = x
    · rw [e, upd_same]
    · rw [upd_other _ _ e]; exact K.sn y hy
  · rw [cb_push hxn hs, K.ct]; simp; omega

theorem KN.mu_pop (_ : KN w wr n out pos s seen ord (pre ++ [v]) nx) : mu n (degC pos) seen pre nx < mu n (degC pos) seen (pre ++ [v]) nx := Pl.mu_pop
theorem KN.mu_next (K : KN w wr n out pos s seen ord (pre ++ [v]) nx) (he : pos v + nx v < pos (v + 1)) : mu n (degC pos) seen (pre ++ [v]) (upd nx v (nx v + 1)) < mu n (degC pos) seen (pre ++ [v]) nx :=
  Pl.mu_next K.top.vp (by unfold degC; omega)
theorem KN.mu_push (C : Csr n out pos) (K : KN w wr n out pos s seen ord (pre ++ [v]) nx) (he : pos v + nx v < pos (v + 1)) {x : Nat} (hx : out (pos v + nx v) = x) (hs : seen x = false) :
    mu n (degC pos) (upd seen x true) (pre ++ [v] ++ [x]) (upd (upd nx v (nx v + 1)) x 0) < mu n (degC pos) seen (pre ++ [v]) nx := by
  have hd : nx v < degC pos v := by unfold degC; omega
  have T := K.top
  have hxn : x < n := by rw [← hx]; exact C.lt T.vn hd
  have hvx : v ≠ x := fun q => by have := T.sv; rw [q, hs] at this; cases this
  have hxp : x ∉ pre ++ [v] := fun q => by have := (K.ki.so x hxn).2 (.inr q); rw [hs] at this; cases this
  exact Pl.mu_push hxn hs T.vp (fun q => hxp (by simp [q])) hvx hd
end Go.Proofs.Qxb6603020a
