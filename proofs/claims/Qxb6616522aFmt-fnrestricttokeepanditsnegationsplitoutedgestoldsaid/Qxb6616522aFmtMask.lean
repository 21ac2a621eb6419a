/-
  THE MASK: the closure of ZZRestrictMask; Out.
-/
import Derived.Test.Qxb6616522aFmtCheck
namespace Go.Proofs.Qxb6616522aFmt
open Go.RowKit

/-- The mask as the call holds it: false past its end. -/
structure Mask (w : World) (kv : Value) (m : Nat) (K : Nat → Bool) : Prop where
  form : ∃ ko kc kb, kv = .slice ko m kc ∧ (0 < m → ko = some ⟨kb, 0, none⟩ ∧ kb < w.heap.size) ∧ ∀ i, i < m → w.cell? ⟨kb, i, none⟩ = some (.bool (K i))
theorem Mask.below {w w' : World} {kv : Value} {m : Nat} {K : Nat → Bool} (h : Mask w kv m K) (hb : Below w.heap.size w w') : Mask w' kv m K := by
  obtain ⟨ko, kc, kb, h1, h2, h3⟩ := h.form
  exact ⟨ko, kc, kb, h1, fun h0 => ⟨(h2 h0).1, Nat.lt_of_lt_of_le (h2 h0).2 hb.size⟩, fun i hi => (hb.cell (p := ⟨kb, i, none⟩) (h2 (by omega)).2).trans (h3 i hi)⟩
theorem Mask.kept {w : World} {kv : Value} {m : Nat} {K : Nat → Bool} (h : Mask w kv m K) (i : Nat) : Calls Tryf.prog 19 #[.int .i64 i, kv, .bool true] w fun e w' => e = .returned (.bool (mask m K i)) ∧ w' = w := by
  obtain ⟨ko, kc, kb, rfl, h2, h3⟩ := h.form
  by_cases hi : i < m
  · obtain ⟨rfl, _⟩ := h2 (by omega)
    have := kept_some i m kc kb (K i) hi w (h3 i hi)
    simpa [mask, hi] using this
  · have := kept_none i m kc ko (by omega) w
    simpa [mask, hi] using this

set_option maxHeartbeats 1000000 in
set_option maxRecDepth 100000 in
theorem closure_at {w : World} {kv : Value} {m : Nat} {K : Nat → Bool} (h : Mask w kv m K) (bk i : Nat) (hc : w.cell? ⟨bk, 0, none⟩ = some kv) :
    Calls Tryf.prog 22 #[.int .i64 i, .pointer (some ⟨bk, 0, none⟩)] w fun e w' => e = .returned (.bool (mask m K i)) ∧ w' = w := by
  obtain ⟨ko, kc, kb, rfl, h2, h3⟩ := h.form
  by_cases hi : i < m
  · obtain ⟨rfl, _⟩ := h2 (by omega)
    have hk := h3 i hi
    have hi' : (i : Int) < m := by omega
    go_enter Tryf.func22, Tryf.ntmps22
    go_wp2
    go_ret
    exact ⟨by simp [mask, hi], rfl⟩
  · have hd : decide ((i : Int) < m) = false := by simp; omega
    have hd' : decide (i < m) = false := by simp; omega
    go_enter Tryf.func22, Tryf.ntmps22
    go_wp2
    go_ret
    exact ⟨by simp [mask, hi], rfl⟩

set_option maxHeartbeats 2000000 in
set_option maxRecDepth 100000 in
/-- Out: the two slices of vertex i's run. -/
theorem out_at (w : World) (bg bs bt bw i n lo hi M cs ct cw : Nat) (hi1 : i < n) (hn : n ≤ 1000000) (hlh : lo < hi) (hhM : hi ≤ M) (hct : M ≤ ct) (hcw : M ≤ cw)
    (g1 : w.cell? ⟨bg, 1, none⟩ = some (.slice (some ⟨bs, 0, none⟩) (n + 1) cs)) (g2 : w.cell? ⟨bg, 2, none⟩ = some (.slice (some ⟨bt, 0, none⟩) M ct)) (g3 : w.cell? ⟨bg, 3, none⟩ = some (.slice (some ⟨bw, 0, none⟩) M cw))
    (s0 : w.cell? ⟨bs, i, none⟩ = some (.int .i64 lo)) (s1 : w.cell? ⟨bs, i + 1, none⟩ = some (.int .i64 hi)) :
    Calls Tryf.prog 30 #[.pointer (some ⟨bg, 0, none⟩), .int .i64 i] w fun e w' => e = .returned (.tuple #[.slice (some ⟨bt, lo, none⟩) (hi - lo) (ct - lo), .slice (some ⟨bw, lo, none⟩) (hi - lo) (cw - lo)]) ∧ ∃ q q2, w' = (w.drewN q).drewN q2 := by
  have h1 : (i : Int) < (n : Int) + 1 := by omega
  have h2 : (i : Int) + 1 < (n : Int) + 1 := by omega
  have h3 : (lo : Int) ≤ hi := by omega
  have h4 : (hi : Int) ≤ ct := by omega
  have h5 : (hi : Int) ≤ cw := by omega
  have h6 : ¬ ct - lo = 0 := by omega
  have h7 : ¬ cw - lo = 0 := by omega
  have h8 : ¬ ct ≤ lo := by omega
  have h9 : ¬ cw ≤ lo := by omega
  go_enter Tryf.func30, Tryf.ntmps30
  go_wp2
  go_quiet (fail)
  go_wp2
  go_quiet (fail)
  go_wp2
  go_ret2
  exact ⟨rfl, _, _, rfl⟩
end Go.Proofs.Qxb6616522aFmt
