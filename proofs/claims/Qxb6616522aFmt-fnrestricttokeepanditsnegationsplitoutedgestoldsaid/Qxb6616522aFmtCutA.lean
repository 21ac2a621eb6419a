/-
  Restrict: the plain parts.
-/
import Derived.Test.Qxb6616522aFmtCheck
import Derived.Deep.OwnRows
import Derived.Laws.IdiomCopy
namespace Go.Proofs.Qxb6616522aFmt
open Go.RowKit

theorem arcs_filter (directed : Bool) (kp : Nat → Bool) (F T W : Nat → Nat) (k : Nat) : arcs directed kp F T W k = (arcs directed (fun _ => true) F T W k).filter fun a => kp a.1 := by
  induction k with
  | zero => rfl
  | succ k ih =>
    rw [arcs, arcs, List.filter_append, ih]
    congr 1
    unfold ones
    rw [List.filter_append]
    congr 1
    · by_cases h : kp (F k) = true <;> simp [h]
    · generalize (!directed && (F k != T k)) = c
      cases c <;> cases hT : kp (T k) <;> simp [hT]
theorem run_filter (L : List Arc) (kp : Nat → Bool) (s : Nat) : run (L.filter fun a => kp a.1) s = if kp s then run L s else [] := by
  induction L with
  | nil => simp [run_nil]
  | cons a L ih =>
    rw [List.filter_cons]
    by_cases h : kp a.1 = true
    · rw [if_pos h, run_cons, run_cons, ih]
      by_cases e : a.1 = s
      · subst e; simp [h]
      · simp [e]
    · rw [if_neg h, ih, run_cons]
      by_cases e : a.1 = s
      · subst e; simp [h]
      · simp [e]
theorem run_kept (directed : Bool) (kp : Nat → Bool) (F T W : Nat → Nat) (N s : Nat) : run (arcs directed kp F T W N) s = if kp s then run (arcs directed (fun _ => true) F T W N) s else [] := by
  rw [arcs_filter directed kp, run_filter]

/-- Cells laid one behind the other into a row. -/
theorem rowIs_setCells {b t n : Nat} : ∀ (vs : List Value) (o : Nat) {w : World} {f : Nat → Value}, w.rowIs b t n f → (w.setCells b o vs).rowIs b t n (fun i => if o ≤ i then vs.getD (i - o) (f i) else f i)
  | [], o, w, f, h => h.congr fun i _ => by simp
  | v :: r, o, w, f, h => by
    rw [World.setCells]
    refine (rowIs_setCells r (o + 1) (h.set o v)).congr fun i _ => ?_
    rcases Nat.lt_trichotomy i o with h1 | h1 | h1
    · rw [if_neg (show ¬ o + 1 ≤ i by omega), if_neg (show ¬ i = o by omega), if_neg (show ¬ o ≤ i by omega)]
    · subst h1
      rw [if_neg (show ¬ i + 1 ≤ i by omega), if_pos rfl, if_pos (Nat.le_refl _)]; simp
    · rw [if_pos (show o + 1 ≤ i by omega), if_pos (show o ≤ i by omega), if_neg (show ¬ i = o by omega)]
      obtain ⟨k, rfl⟩ : ∃ k, i = o + 1 + k := ⟨i - (o + 1), by omega⟩
      rw [show o + 1 + k - (o + 1) = k by omega, show o + 1 + k - o = k + 1 by omega]
      simp
theorem heap_setCells_other {b b' : Nat} (h : b' ≠ b) : ∀ (vs : List Value) (o : Nat) (w : World), (w.setCells b o vs).heap[b']? = w.heap[b']?
  | [], _, _ => rfl
  | v :: r, o, w => by rw [World.setCells, heap_setCells_other h r (o + 1)]; exact heap_setCell_other _ _ _ _ h
end Go.Proofs.Qxb6616522aFmt
