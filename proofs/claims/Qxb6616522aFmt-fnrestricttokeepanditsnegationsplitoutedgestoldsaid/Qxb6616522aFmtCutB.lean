/-
  Restrict: the second loop's invariant.
-/
import Derived.Test.Qxb6616522aFmtGraphA
import Derived.Test.Qxb6616522aFmtCutA
namespace Go.Proofs.Qxb6616522aFmt
open Go.RowKit

/-- The restricted graph's block while its rows fill. -/
def gAt (bi rs rt rw n N M1 k : Nat) : Array Value := #[.slice (some ⟨bi, 0, none⟩) n n, .slice (some ⟨rs, 0, none⟩) (n + 1) (n + 1), .slice (some ⟨rt, 0, none⟩) k M1, .slice (some ⟨rw, 0, none⟩) k M1, .int .i64 N]
structure Inv5 (w : World) (H bi rt rw n N M1 : Nat) (A1 : List Arc) (j : Nat) (wr : World) : Prop where
  below : Below H w wr
  start : wr.rowIs H 3 (n + 1) (fun i => .int .i64 (st A1 i))
  blk : wr.heap[H + 1]? = some (.cells (gAt bi H rt rw n N M1 (st A1 j)) 46 (0, 0))
  rows : ∃ fT fW, wr.rowIs rt 21 M1 fT ∧ wr.rowIs rw 24 M1 fW ∧ ∀ s c, s < j → (h : c < (run A1 s).length) → fT (st A1 s + c) = .int .i32 (((run A1 s)[c].2.1 : Nat) : Int) ∧ fW (st A1 s + c) = .float .f64 (run A1 s)[c].2.2
theorem Inv5.drewN {w : World} {H bi rt rw n N M1 : Nat} {A1 : List Arc} {j : Nat} {wr : World} (h : Inv5 w H bi rt rw n N M1 A1 j wr) (q : Nat) : Inv5 w H bi rt rw n N M1 A1 j (wr.drewN q) := by
  obtain ⟨h1, h2, h3, fT, fW, h4, h5, h6⟩ := h
  exact ⟨below_drewN h1 q, h2.of_block rfl, h3, fT, fW, h4.of_block rfl, h5.of_block rfl, h6⟩
/-- A vertex without arcs: nothing turns. -/
theorem Inv5.skip {w : World} {H bi rt rw n N M1 : Nat} {A1 : List Arc} {j : Nat} {wr : World} (h : Inv5 w H bi rt rw n N M1 A1 j wr) (he : st A1 (j + 1) = st A1 j) : Inv5 w H bi rt rw n N M1 A1 (j + 1) wr := by
  obtain ⟨h1, h2, h3, fT, fW, h4, h5, h6⟩ := h
  refine ⟨h1, h2, by rw [he]; exact h3, fT, fW, h4, h5, fun s c hs hc => ?_⟩
  rcases Nat.lt_or_ge s j with h | h
  · exact h6 s c h hc
  · obtain rfl : s = j := by omega
    have := st_succ A1 s
    omega
def newsT (A1 : List Arc) (j : Nat) : List Value := (run A1 j).map fun a => .int .i32 ((a.2.1 : Nat) : Int)
def newsW (A1 : List Arc) (j : Nat) : List Value := (run A1 j).map fun a => .float .f64 a.2.2
theorem Inv5.step {w : World} {H bi rt rw n N M1 : Nat} {A1 : List Arc} {j : Nat} {wr : World} (h : Inv5 w H bi rt rw n N M1 A1 j wr) (l1 : H + 1 < rt) (l2 : H + 1 < rw) (hne : rt ≠ rw) :
    Inv5 w H bi rt rw n N M1 A1 (j + 1) ((((wr.setCells rt (st A1 j) (newsT A1 j)).setCell ⟨H + 1, 2, none⟩ (.slice (some ⟨rt, 0, none⟩) (st A1 (j + 1)) M1)).setCells rw (st A1 j) (newsW A1 j)).setCell ⟨H + 1, 3, none⟩ (.slice (some ⟨rw, 0, none⟩) (st A1 (j + 1)) M1)) := by
  obtain ⟨h1, h2, h3, fT, fW, h4, h5, h6⟩ := h
  refine ⟨?_, ?_, ?_, fun i => if st A1 j ≤ i then (newsT A1 j).getD (i - st A1 j) (fT i) else fT i, fun i => if st A1 j ≤ i then (newsW A1 j).getD (i - st A1 j) (fW i) else fW i, ?_, ?_, ?_⟩
  · exact (below_setCells (by omega) _ _ ((below_setCells (by omega) _ _ h1).setCell (p := ⟨H + 1, 2, none⟩) (by show H ≤ H + 1; omega) _)).setCell (p := ⟨H + 1, 3, none⟩) (by show H ≤ H + 1; omega) _
  · refine h2.of_block ?_
    rw [heap_setCell_other _ _ _ _ (show H ≠ H + 1 by omega), heap_setCells_other (by omega), heap_setCell_other _ _ _ _ (show H ≠ H + 1 by omega), heap_setCells_other (by omega)]
  · have e1 : (wr.setCells rt (st A1 j) (newsT A1 j)).heap[H + 1]? = some (.cells (gAt bi H rt rw n N M1 (st A1 j)) 46 (0, 0)) := by rw [heap_setCells_other (by omega)]; exact h3
    have e2 := heap_setCell_same _ _ 2 _ _ (.slice (some ⟨rt, 0, none⟩) (st A1 (j + 1)) M1) e1
    have e3 : (((wr.setCells rt (st A1 j) (newsT A1 j)).setCell ⟨H + 1, 2, none⟩ (.slice (some ⟨rt, 0, none⟩) (st A1 (j + 1)) M1)).setCells rw (st A1 j) (newsW A1 j)).heap[H + 1]? = _ := (heap_setCells_other (by omega) _ _ _).trans e2
    exact (heap_setCell_same _ _ 3 _ _ (.slice (some ⟨rw, 0, none⟩) (st A1 (j + 1)) M1) e3).trans rfl
  · exact (((rowIs_setCells (newsT A1 j) (st A1 j) h4).setOther (a := ⟨H + 1, 2, none⟩) (by show rt ≠ H + 1; omega) _).of_block (heap_setCells_other hne _ _ _)).setOther (a := ⟨H + 1, 3, none⟩) (by show rt ≠ H + 1; omega) _
  · exact (rowIs_setCells (newsW A1 j) (st A1 j) ((h5.of_block (heap_setCells_other hne.symm _ _ _)).setOther (a := ⟨H + 1, 2, none⟩) (by show rw ≠ H + 1; omega) _)).setOther (a := ⟨H + 1, 3, none⟩) (by show rw ≠ H + 1; omega) _
  · intro s c hs hc
    rcases Nat.lt_or_ge s j with h | h
    · have := place_lt A1 s c j h hc
      simp only [if_neg (show ¬ st A1 j ≤ st A1 s + c by omega)]
      exact h6 s c h hc
    · obtain rfl : s = j := by omega
      simp only [if_pos (show st A1 s ≤ st A1 s + c by omega), Nat.add_sub_cancel_left]
      simp [newsT, newsW, List.getD_eq_getElem?_getD, hc]
end Go.Proofs.Qxb6616522aFmt
