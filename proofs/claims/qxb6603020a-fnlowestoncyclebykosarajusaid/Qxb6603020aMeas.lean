/-
  PLAIN: how many nodes were seen; how many rounds are to come. No Go in sight.
-/
import Derived.Test.Qxb6603020aGraph
namespace Go.Proofs.Qxb6603020a.Pl

/-- How many nodes below n were seen. -/
def cb (seen : Nat → Bool) (n : Nat) : Nat := sumTo (fun x => if seen x then 1 else 0) n
theorem cb_succ (seen : Nat → Bool) (n : Nat) : cb seen (n + 1) = cb seen n + if seen n then 1 else 0 := rfl
theorem cb_le (seen : Nat → Bool) : ∀ n, cb seen n ≤ n
  | 0 => Nat.le_refl _
  | n + 1 => by
    have := cb_le seen n
    rw [cb_succ]
    split <;> omega
theorem cb_push {seen : Nat → Bool} {n w : Nat} (hw : w < n) (h0 : seen w = false) : cb (upd seen w true) n = cb seen n + 1 := by
  have h : sumTo (fun x => if upd seen w true x then 1 else 0) n + (if seen w then 1 else 0) = sumTo (fun x => if seen x then 1 else 0) n + (if upd seen w true w then 1 else 0) :=
    sumTo_upd (f := fun x => if upd seen w true x then 1 else 0) (g := fun x => if seen x then 1 else 0) hw (fun x hx => by show (if _ then _ else _) = _; rw [upd_other _ _ hx])
  rw [upd_same, h0] at h
  unfold cb
  simpa using h
theorem cb_lt {seen : Nat → Bool} {n w : Nat} (hw : w < n) (h0 : seen w = false) : cb seen n < n := by
  have h1 := cb_push hw h0
  have h2 := cb_le (upd seen w true) n
  omega
theorem cb_all {seen : Nat → Bool} : ∀ {n : Nat}, (∀ x, x < n → seen x = true) → cb seen n = n
  | 0, _ => rfl
  | n + 1, h => by
    have := cb_all (n := n) (fun x hx => h x (by omega))
    rw [cb_succ, this, h n (by omega)]
    rfl
theorem cb_none (n : Nat) : cb (fun _ => false) n = 0 := by
  induction n with
  | zero => rfl
  | succ n ih => rw [cb_succ, ih]; rfl

/-- The sum of f over a list. -/
def lsum (f : Nat → Nat) : List Nat → Nat
  | [] => 0
  | x :: l => f x + lsum f l
theorem lsum_append (f : Nat → Nat) : ∀ (l m : List Nat), lsum f (l ++ m) = lsum f l + lsum f m
  | [], m => by simp [lsum]
  | x :: l, m => by simp only [List.cons_append, lsum, lsum_append f l m]; omega
theorem lsum_congr {f g : Nat → Nat} : ∀ {l : List Nat}, (∀ x ∈ l, f x = g x) → lsum f l = lsum g l
  | [], _ => rfl
  | x :: l, h => by unfold lsum; rw [h x (by simp), lsum_congr (fun y hy => h y (by simp [hy]))]

def unS (seen : Nat → Bool) (deg : Nat → Nat) (x : Nat) : Nat := if seen x then 0 else deg x + 2
/-- How many rounds are to come at most. -/
def mu (n : Nat) (deg : Nat → Nat) (seen : Nat → Bool) (stk : List Nat) (nx : Nat → Nat) : Nat := sumTo (unS seen deg) n + lsum (fun v => deg v - nx v + 1) stk

variable {n : Nat} {deg : Nat → Nat} {seen : Nat → Bool} {stk pre : List Nat} {nx : Nat → Nat} {v w : Nat}
theorem unS_push (hw : w < n) (h0 : seen w = false) : sumTo (unS (upd seen w true) deg) n + (deg w + 2) = sumTo (unS seen deg) n := by
  have h : sumTo (unS (upd seen w true) deg) n + unS seen deg w = sumTo (unS seen deg) n + unS (upd seen w true) deg w :=
    sumTo_upd hw (fun x hx => by unfold unS; rw [upd_other _ _ hx])
  have e1 : unS seen deg w = deg w + 2 := by unfold unS; rw [h0]; rfl
  have e2 : unS (upd seen w true) deg w = 0 := by unfold unS; rw [upd_same]; rfl
  omega
theorem mu_root (hw : w < n) (h0 : seen w = false) : mu n deg (upd seen w true) [w] (upd nx w 0) < mu n deg seen [] nx := by
  have h := unS_push (deg := deg) hw h0
  unfold mu lsum lsum
  rw [upd_same]
  omega
theorem mu_push (hw : w < n) (h0 : seen w = false) (hv : v ∉ pre) (hwp : w ∉ pre) (hvw : v ≠ w) (hd : nx v < deg v) :
    mu n deg (upd seen w true) (pre ++ [v] ++ [w]) (upd (upd nx v (nx v + 1)) w 0) < mu n deg seen (pre ++ [v]) nx := by
  have h := unS_push (deg := deg) hw h0
  unfold mu
  rw [lsum_append, lsum_append, lsum_append]
  have e : lsum (fun x => deg x - upd (upd nx v (nx v + 1)) w 0 x + 1) pre = lsum (fun x => deg x - nx x + 1) pre := lsum_congr (fun x hx => by
    have h1 : x ≠ w := fun q => hwp (by rw [← q]; exact hx)
    have h2 : x ≠ v := fun q => hv (by rw [← q]; exact hx)
    rw [upd_other _ _ h1, upd_other _ _ h2])
  rw [e]
  simp only [lsum]
  rw [upd_same, upd_other _ _ hvw, upd_same]
  omega
theorem mu_next (hv : v ∉ pre) (hd : nx v < deg v) : mu n deg seen (pre ++ [v]) (upd nx v (nx v + 1)) < mu n deg seen (pre ++ [v]) nx := by
  unfold mu
  rw [lsum_append, lsum_append]
  have e : lsum (fun x => deg x - upd nx v (nx v + 1) x + 1) pre = lsum (fun x => deg x - nx x + 1) pre := lsum_congr (fun x hx => by
    have h2 : x ≠ v := fun q => hv (by rw [← q]; exact hx)
    rw [upd_other _ _ h2])
  rw [e]
  simp only [lsum]
  rw [upd_same]
  omega
theorem mu_pop : mu n deg seen pre nx < mu n deg seen (pre ++ [v]) nx := by
  unfold mu
  rw [lsum_append]
  simp only [lsum]
  omega
end Go.Proofs.Qxb6603020a.Pl
