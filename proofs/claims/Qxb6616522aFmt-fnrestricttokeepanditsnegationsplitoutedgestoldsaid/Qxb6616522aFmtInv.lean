/-
  THE PLACING LOOP's INVARIANT.
-/
import Derived.Test.Qxb6616522aFmtPlace
namespace Go.Proofs.Qxb6616522aFmt
open Go.RowKit

/-- The arcs L, of all arcs A, stand at their places. -/
def Placed (A L : List Arc) (n : Nat) (fT fW : Nat → Value) : Prop :=
  ∀ s c, s < n → c < (run L s).length → (h : c < (run A s).length) → fT (st A s + c) = .int .i32 (((run A s)[c].2.1 : Nat) : Int) ∧ fW (st A s + c) = .float .f64 (run A s)[c].2.2
theorem placed_nil (A : List Arc) (n : Nat) (fT fW : Nat → Value) : Placed A [] n fT fW := fun _ _ _ h => absurd h (by simp [run_nil])
theorem placed_step {A L K : List Arc} {n a x y : Nat} {fT fW : Nat → Value} (hA : A = L ++ (a, x, y) :: K) (hP : Placed A L n fT fW) :
    Placed A (L ++ [(a, x, y)]) n (fun i => if i = st A a + (run L a).length then .int .i32 (x : Int) else fT i) (fun i => if i = st A a + (run L a).length then .float .f64 y else fW i) := by
  obtain ⟨hl, hp⟩ := pick (A := A) (L := L) (K := K) (a := a) (p := (x, y)) hA
  intro s c hs hc h
  rw [run_append, run_one] at hc
  by_cases hsc : s = a ∧ c = (run L a).length
  · obtain ⟨rfl, rfl⟩ := hsc
    simp [hp]
  · have hc' : c < (run L s).length := by
      by_cases hsa : a = s
      · subst hsa
        rw [if_pos rfl] at hc
        simp at hc
        have : c ≠ (run L a).length := fun e => hsc ⟨rfl, e⟩
        omega
      · rw [if_neg hsa] at hc; simpa using hc
    have hne : ¬ st A s + c = st A a + (run L a).length := fun e => hsc (by obtain ⟨h1, h2⟩ := place_inj A h hl e; exact ⟨h1, h2⟩)
    simp only [hne, if_false]
    exact hP s c hs hc' h

/-- THE INVARIANT: the graph's block, the cursors, the two rows. -/
structure Inv4 (wE : World) (E0 bg gn cap n M bt bw : Nat) (G : Array Value) (X : Nat → Value) (A L : List Arc) (wr : World) : Prop where
  below : Below E0 wE wr
  blk : wr.heap[bg]? = some (.cells G 46 (0, 0))
  next : wr.rowIs gn 3 cap (fun i => if i < n then .int .i64 ((st A i : Int) + ((run L i).length : Int)) else X i)
  rows : ∃ fT fW, wr.rowIs bt 21 M fT ∧ wr.rowIs bw 24 M fW ∧ Placed A L n fT fW

theorem addOut_inv {wE : World} {E0 bg gn cap cn n M bt bw ct cw : Nat} {G : Array Value} {X : Nat → Value} {A L K : List Arc} {wr : World} {a x y : Nat} (h : Inv4 wE E0 bg gn cap n M bt bw G X A L wr)
    (hA : A = L ++ (a, x, y) :: K) (ha : a < n) (hM : M = st A n) (hMb : M ≤ 1000000) (hcap : n ≤ cap)
    (g2 : G[2]? = some (.slice (some ⟨bt, 0, none⟩) M ct)) (g3 : G[3]? = some (.slice (some ⟨bw, 0, none⟩) M cw))
    (l1 : E0 ≤ gn) (l2 : E0 ≤ bt) (l3 : E0 ≤ bw) (n1 : bg ≠ bt) (n2 : bg ≠ bw) (n0 : bg ≠ gn) (n3 : gn ≠ bt) (n4 : gn ≠ bw) (n5 : bt ≠ bw) :
    Calls Tryf.prog 29 #[.pointer (some ⟨bg, 0, none⟩), .slice (some ⟨gn, 0, none⟩) n cn, .int .i32 a, .int .i32 x, .float .f64 y] wr fun e w' => e = .returned (.tuple #[]) ∧ Inv4 wE E0 bg gn cap n M bt bw G X A (L ++ [(a, x, y)]) w' := by
  obtain ⟨hb, hblk, hn, fT, fW, hT, hW, hP⟩ := h
  obtain ⟨hl, _⟩ := pick (A := A) (L := L) (K := K) (a := a) (p := (x, y)) hA
  obtain ⟨c0, hc0⟩ : ∃ c0, c0 = st A a + (run L a).length := ⟨_, rfl⟩
  have hcM : c0 < M := by have := place_lt A a _ n ha hl; omega
  have k1 := hn.cell (i := a) (by omega)
  rw [if_pos ha, show (st A a : Int) + ((run L a).length : Int) = (c0 : Int) by omega] at k1
  refine (addOut_at wr n M bg gn bt bw ct cw cn a x c0 y (fT c0) (fW c0) ha hcM hMb ?_ ?_ k1 (hT.cell hcM) (hW.cell hcM) (hn.frozen a) (hT.frozen c0) (hW.frozen c0) n1 n3 n4 n5).mono ?_
  · rw [cell_of_row _ _ _ _ _ _ hblk]; exact g2
  · rw [cell_of_row _ _ _ _ _ _ hblk]; exact g3
  rintro e w' ⟨rfl, q, rfl⟩
  have hP' := placed_step hA hP
  rw [← hc0] at hP'
  refine ⟨rfl, ?_, ?_, ?_, _, _, ?_, ?_, hP'⟩
  · exact below_drewN (((hb.setCell (p := ⟨bt, c0, none⟩) l2 _).setCell (p := ⟨bw, c0, none⟩) l3 _).setCell (p := ⟨gn, a, none⟩) l1 _) q
  · show ((((wr.setCell ⟨bt, c0, none⟩ (.int .i32 x)).setCell ⟨bw, c0, none⟩ (.float .f64 y)).setCell ⟨gn, a, none⟩ (.int .i64 ((c0 : Int) + 1)))).heap[bg]? = _
    rw [heap_setCell_other _ _ _ _ n0, heap_setCell_other _ _ _ _ n2, heap_setCell_other _ _ _ _ n1]; exact hblk
  · refine World.rowIs.of_block (w := (((wr.setCell ⟨bt, c0, none⟩ (.int .i32 x)).setCell ⟨bw, c0, none⟩ (.float .f64 y)).setCell ⟨gn, a, none⟩ (.int .i64 ((c0 : Int) + 1)))) ?_ rfl
    refine (((hn.setOther (a := ⟨bt, c0, none⟩) n3 _).setOther (a := ⟨bw, c0, none⟩) n4 _).set a _).congr fun i _ => ?_
    rw [run_append, run_one]
    by_cases h1 : i = a
    · subst h1; simp [ha, hc0]; omega
    · have h2 : ¬ a = i := fun e => h1 e.symm
      simp [h1, h2]
  · exact World.rowIs.of_block (w := (((wr.setCell ⟨bt, c0, none⟩ (.int .i32 x)).setCell ⟨bw, c0, none⟩ (.float .f64 y)).setCell ⟨gn, a, none⟩ (.int .i64 ((c0 : Int) + 1)))) (((hT.set c0 _).setOther (a := ⟨bw, c0, none⟩) n5 _).setOther (a := ⟨gn, a, none⟩) n3.symm _) rfl
  · exact World.rowIs.of_block (w := (((wr.setCell ⟨bt, c0, none⟩ (.int .i32 x)).setCell ⟨bw, c0, none⟩ (.float .f64 y)).setCell ⟨gn, a, none⟩ (.int .i64 ((c0 : Int) + 1)))) (((hW.setOther (a := ⟨bt, c0, none⟩) n5.symm _).set c0 _).setOther (a := ⟨gn, a, none⟩) n4.symm _) rfl
end Go.Proofs.Qxb6616522aFmt
