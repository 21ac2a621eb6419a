/-
  []Edge OPENED: the edges' cells by their index.
-/
import Derived.Test.Qxb6616522aFmtRows
import Derived.Deep.Slices
import Derived.ChangeArms
import Derived.ChangeSame
import Derived.DataReads
import Derived.Laws.Rows
namespace Go.Proofs.Qxb6616522aFmt
open Go.ChangeShapes Go.WideShapes Go.Deep

theorem cells26 : Tryf.prog.cellsOf 26 = 3 := by kernel_rfl
theorem cells21 : Tryf.prog.cellsOf 21 = 1 := by kernel_rfl
theorem cells24 : Tryf.prog.cellsOf 24 = 1 := by kernel_rfl

section
variable {H : Type} {enc : TypeId × Value → H} {P : Program} {w : World} {base : Nat} {spare : Nat → Bool} {held : Bool}
theorem trod_float {t : TypeId} {fuel : Nat} {cs : List Value} {x : DataW H × List MemPlace} {k : FloatKind} (ht : P.underlying t = some (.float k)) (h : DataW.trod enc P w base spare held fuel t cs = some x) : ∃ b, cs = [.float k b] := by
  cases fuel with
  | zero => simp [DataW.trod] at h
  | succ n =>
    unfold DataW.trod at h
    rw [ht] at h
    split at h <;> simp_all
theorem wf32 {z : Int} (h : (Lit.int .i32 z).wf = true) : -2147483648 ≤ z ∧ z ≤ 2147483647 := by
  have h1 : IntKind.i32.min = -2147483648 := by decide
  have h2 : IntKind.i32.max = 2147483647 := by decide
  simp [Lit.wf, h1, h2] at h
  exact h

/-- What is read of the edges. -/
structure Edges (w : World) (N : Nat) (ea : Option Addr) (be oe : Nat) (U V : Nat → Int) (W : Nat → Nat) : Prop where
  at_ : 0 < N → ea = some ⟨be, oe, none⟩
  lbe : 0 < N → be < w.heap.size
  eU : ∀ k, k < N → w.cell? ⟨be, oe + k * 3, none⟩ = some (.int .i32 (U k))
  eV : ∀ k, k < N → w.cell? ⟨be, oe + k * 3 + 1, none⟩ = some (.int .i32 (V k))
  eW : ∀ k, k < N → w.cell? ⟨be, oe + k * 3 + 2, none⟩ = some (.float .f64 (W k))
  hU : ∀ k, k < N → U k ≤ 2147483647
  hV : ∀ k, k < N → V k ≤ 2147483647

theorem open_edges {fuel : Nat} {a0 : Option Addr} {len cap : Nat} {x : DataW H × List MemPlace} (h : DataW.trod enc Tryf.prog w base spare held fuel 22 [.slice a0 len cap] = some x) :
    ∃ be oe U V W, Edges w len a0 be oe U V W := by
  rcases open_slice Tryf.underlying22 h with ⟨h0, _⟩ | ⟨a, len', cap', m, n, D, Pl, hcs, hb, hl, hm, hmm, _, hx⟩
  · simp at h0
    obtain ⟨rfl, rfl, rfl⟩ := h0
    exact ⟨0, 0, fun _ => 0, fun _ => 0, fun _ => 0, fun h => by omega, fun h => by omega, fun k h => by omega, fun k h => by omega, fun k h => by omega, fun k h => by omega, fun k h => by omega⟩
  · simp at hcs
    obtain ⟨rfl, rfl, rfl⟩ := hcs
    have hlm : len ≤ m := by rw [hmm]; split <;> omega
    have each : ∀ i, i < len → ∃ q : Int × Int × Nat, w.cell? (a.add (i * 3)) = some (.int .i32 q.1) ∧ w.cell? (a.add (i * 3 + 1)) = some (.int .i32 q.2.1) ∧ w.cell? (a.add (i * 3 + 2)) = some (.float .f64 q.2.2) ∧ q.1 ≤ 2147483647 ∧ q.2.1 ≤ 2147483647 := by
      intro i hi
      obtain ⟨cs', h1, h2⟩ := hx i (by omega)
      rw [cells26] at h1
      obtain ⟨_, hlen, hcell⟩ := World.cells?_some h1
      obtain ⟨xs, k, hk, hxy, _, hxl, hf⟩ := DataW.trod_struct Tryf.underlying26 h2
      match xs, hxl, cs', hlen with
      | [y0, y1, y2], _, [v0, v1, v2], _ =>
        have g0 := hf 0 _ rfl
        have g1 := hf 1 _ rfl
        have g2 := hf 2 _ rfl
        simp [cells21, cells24] at g0 g1 g2
        have e0 := hcell 0 (by omega)
        have e1 := hcell 1 (by omega)
        have e2 := hcell 2 (by omega)
        rw [add_add] at e0 e1 e2
        obtain ⟨z0, hz0, _, w0⟩ := DataW.trod_int Tryf.underlying21 g0
        obtain ⟨z1, hz1, _, w1⟩ := DataW.trod_int Tryf.underlying21 g1
        obtain ⟨b2, hb2⟩ := trod_float Tryf.underlying24 g2
        simp at hz0 hz1 hb2
        subst hz0 hz1 hb2
        exact ⟨(z0, z1, b2), by simpa using e0, by simpa using e1, by simpa using e2, (wf32 w0).2, (wf32 w1).2⟩
    obtain ⟨q, hq⟩ := choose_lt each
    obtain ⟨b, o, sp⟩ := a
    have hsp : 0 < len → sp = none := fun h => by
      have := (hq 0 h).1
      simpa [Addr.add] using World.cell?_spot this
    have hadd : ∀ j, 0 < len → (⟨b, o, sp⟩ : Addr).add j = ⟨b, o + j, none⟩ := fun j h => by
      rw [hsp h]; unfold Addr.add; split <;> simp_all
    refine ⟨b, o, fun k => (q k).1, fun k => (q k).2.1, fun k => (q k).2.2, fun h => by rw [hsp h], ?_, ?_, ?_, ?_, fun k hk => (hq k hk).2.2.2.1, fun k hk => (hq k hk).2.2.2.2⟩
    · intro h
      have := (hq 0 h).1
      rw [hadd _ h] at this
      exact block_lt_of_cell this
    · intro k hk; have := (hq k hk).1; rwa [hadd _ (by omega)] at this
    · intro k hk; have := (hq k hk).2.1; rw [hadd _ (by omega)] at this; rwa [Nat.add_assoc]
    · intro k hk; have := (hq k hk).2.2.1; rw [hadd _ (by omega)] at this; rwa [Nat.add_assoc]
end
end Go.Proofs.Qxb6616522aFmt
