/-
  addOut: one arc is placed.
-/
import Derived.Test.Qxb6616522aFmtAdd
namespace Go.Proofs.Qxb6616522aFmt
open Go.RowKit

/-- The store of a float: the kit's rows have the other kinds alone. -/
theorem run_store_float {P : Program} (w : World) (a : Addr) (m : Mode) (k : FloatKind) (x : Nat) : (store a (.float k x) m).run P w = stored P w a (.float k x) m := run_store P w a _ m rfl
attribute [local go_sem] run_store_float
theorem set_far (w : World) {b i b' i' : Nat} (v : Value) (h : b' ≠ b) : (w.setCell ⟨b, i, none⟩ v).drew.cell? ⟨b', i', none⟩ = w.cell? ⟨b', i', none⟩ := World.cell?_of_block (heap_setCell_other _ _ _ _ h)
theorem set_farF (w : World) {b i b' i' : Nat} (v : Value) (h : b' ≠ b) : (w.setCell ⟨b, i, none⟩ v).drew.frozen? ⟨b', i', none⟩ = w.frozen? ⟨b', i', none⟩ := World.frozen?_of_block (heap_setCell_other _ _ _ _ h)

set_option maxHeartbeats 2000000 in
set_option maxRecDepth 100000 in
theorem addOut_at (w : World) (n M bg bn bt bw ct cw cn a x c0 y : Nat) (ot ow : Value)
    (ha : a < n) (hc : c0 < M) (hM : M ≤ 1000000)
    (h2 : w.cell? ⟨bg, 2, none⟩ = some (.slice (some ⟨bt, 0, none⟩) M ct)) (h3 : w.cell? ⟨bg, 3, none⟩ = some (.slice (some ⟨bw, 0, none⟩) M cw))
    (k1 : w.cell? ⟨bn, a, none⟩ = some (.int .i64 c0)) (k2 : w.cell? ⟨bt, c0, none⟩ = some ot) (k3 : w.cell? ⟨bw, c0, none⟩ = some ow)
    (f1 : w.frozen? ⟨bn, a, none⟩ = false) (f2 : w.frozen? ⟨bt, c0, none⟩ = false) (f3 : w.frozen? ⟨bw, c0, none⟩ = false)
    (n1 : bg ≠ bt) (n3 : bn ≠ bt) (n4 : bn ≠ bw) (n5 : bt ≠ bw) :
    Calls Tryf.prog 29 #[.pointer (some ⟨bg, 0, none⟩), .slice (some ⟨bn, 0, none⟩) n cn, .int .i32 a, .int .i32 x, .float .f64 y] w fun e w' => e = .returned (.tuple #[]) ∧
      ∃ q, w' = (((w.setCell ⟨bt, c0, none⟩ (.int .i32 x)).setCell ⟨bw, c0, none⟩ (.float .f64 y)).setCell ⟨bn, a, none⟩ (.int .i64 ((c0 : Int) + 1))).drewN q := by
  have ha' : (a : Int) < n := by omega
  have hc' : (c0 : Int) < M := by omega
  go_enter Tryf.func29, Tryf.ntmps29
  go_wp2
  go_cut [] from 10 to 19 (fun wx => wx = (w.setCell ⟨bt, c0, none⟩ (.int .i32 x)).drew)
  case first => go_region; all_goals (go_wp2; go_meet; exact rfl)
  case rest =>
    obtain ⟨wx, hwx⟩ : ∃ wx, wx = wc := ⟨_, rfl⟩
    subst hwx
    have a3 : wx.cell? ⟨bg, 3, none⟩ = some (.slice (some ⟨bw, 0, none⟩) M cw) := by rw [hcut, set_far _ _ n1]; exact h3
    have a1 : wx.cell? ⟨bn, a, none⟩ = some (.int .i64 c0) := by rw [hcut, set_far _ _ n3]; exact k1
    have a2 : wx.cell? ⟨bw, c0, none⟩ = some ow := by rw [hcut, set_far _ _ n5.symm]; exact k3
    have g1 : wx.frozen? ⟨bn, a, none⟩ = false := by rw [hcut, set_farF _ _ n3]; exact f1
    have g2 : wx.frozen? ⟨bw, c0, none⟩ = false := by rw [hcut, set_farF _ _ n5.symm]; exact f3
    have HC : Hid (wx = (w.setCell ⟨bt, c0, none⟩ (.int .i32 x)).drew) := hcut
    clear hcut h2 h3 k1 k2 k3 f1 f2 f3
    go_wp2
    go_cut [] from 20 to 29 (fun wy => wy = (wx.setCell ⟨bw, c0, none⟩ (.float .f64 y)).drew)
    case first => go_region; all_goals (go_wp2; go_meet; exact rfl)
    case rest =>
      obtain ⟨wy, hwy⟩ : ∃ wy, wy = wc := ⟨_, rfl⟩
      subst hwy
      have b1 : wy.cell? ⟨bn, a, none⟩ = some (.int .i64 c0) := by rw [hcut, set_far _ _ n4]; exact a1
      have b2 : wy.frozen? ⟨bn, a, none⟩ = false := by rw [hcut, set_farF _ _ n4]; exact g1
      have HC2 : Hid (wy = (wx.setCell ⟨bw, c0, none⟩ (.float .f64 y)).drew) := hcut
      clear hcut a1 a2 a3 g1 g2
      go_wp2
      go_end0
      exact ⟨rfl, 2, by rw [HC2.out, HC.out]; rfl⟩
end Go.Proofs.Qxb6616522aFmt
