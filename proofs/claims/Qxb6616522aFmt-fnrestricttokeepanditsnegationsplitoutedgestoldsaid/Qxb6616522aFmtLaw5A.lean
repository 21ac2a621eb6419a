/-
  sameIDs, sameRun, the bound of the last law.
-/
import Derived.Test.Qxb6616522aFmtCheck
namespace Go.Proofs.Qxb6616522aFmt
open Go.RowKit

theorem bytes13_at (ea ko : Option Addr) (N ce m kc : Nat) (d : Bool) (w : World) : Calls Tryf.prog 13 #[.slice ea N ce, .bool d, .slice ko m kc] w fun e w' => e = .returned (.bool (decide (N ≤ 1048576) && (decide (m ≤ 1048576) && decide (N + m ≤ 1048576)))) ∧ w' = w := by
  by_cases h : N ≤ 1048576
  · have h1 : ¬ ((1048576 : Int) < N) := by omega
    have h2 : decide (1048576 < N) = false := by simp; omega
    by_cases hm : m ≤ 1048576
    · have h3 : ¬ ((1048576 : Int) < m) := by omega
      have h4 : decide (1048576 < m) = false := by simp; omega
      by_cases hs : N + m ≤ 1048576
      · have h5 : ¬ ((1048576 : Int) < (N : Int) + m) := by omega
        have h6 : decide (1048576 < N + m) = false := by simp; omega
        go_enter Tryf.func13, Tryf.ntmps13
        go_wp2
        go_ret
        exact ⟨by simp, rfl⟩
      · have h5 : (1048576 : Int) < (N : Int) + m := by omega
        have h6 : decide (1048576 < N + m) = true := by simp; omega
        go_enter Tryf.func13, Tryf.ntmps13
        go_wp2
        go_ret
        exact ⟨by simp, rfl⟩
    · have h3 : (1048576 : Int) < m := by omega
      have h4 : decide (1048576 < m) = true := by simp; omega
      go_enter Tryf.func13, Tryf.ntmps13
      go_wp2
      go_ret
      exact ⟨by simp, rfl⟩
  · have h1 : (1048576 : Int) < N := by omega
    have h2 : decide (1048576 < N) = true := by simp; omega
    go_enter Tryf.func13, Tryf.ntmps13
    go_wp2
    go_ret
    exact ⟨by simp [h], rfl⟩

theorem drawn_on {w wr : World} (h : ∃ q, wr = w.drewN q) (k : Nat) : ∃ q, wr.drewN k = w.drewN q := by
  obtain ⟨q, rfl⟩ := h
  exact ⟨q + k, World.drewN_drewN _ _ _⟩

set_option maxHeartbeats 2000000 in
set_option maxRecDepth 100000 in
theorem sameIDs_at (n ca cb a b : Nat) (I : Nat → Int) (hn : n ≤ 1048576) (w : World) (h1 : ∀ i, i < n → w.cell? ⟨a, i, none⟩ = some (.int .i32 (I i))) (h2 : ∀ i, i < n → w.cell? ⟨b, i, none⟩ = some (.int .i32 (I i))) :
    Calls Tryf.prog 14 #[.slice (some ⟨a, 0, none⟩) n ca, .slice (some ⟨b, 0, none⟩) n cb] w fun e w' => e = .returned (.bool true) ∧ ∃ q, w' = w.drewN q := by
  have H1 : Hid (∀ i, i < n → w.cell? ⟨a, i, none⟩ = some (.int .i32 (I i))) := h1
  have H2 : Hid (∀ i, i < n → w.cell? ⟨b, i, none⟩ = some (.int .i32 (I i))) := h2
  clear h1 h2
  go_enter Tryf.func14, Tryf.ntmps14
  go_wp2
  go_loopw [5] (fun v wr => ∃ j : Nat, v = .int .i64 j ∧ j ≤ n ∧ ∃ q, wr = w.drewN q) (fun v _ => n - (intOf v).toNat)
  case atStart => exact ⟨0, rfl, Nat.zero_le _, 0, rfl⟩
  case round =>
    obtain ⟨j, rfl, hj, hq⟩ := hrel
    have HQ : Hid (∃ q, wr = w.drewN q) := hq
    by_cases hlt : j < n
    · have hlt' : (j : Int) < n := by omega
      have c1 : wr.cell? ⟨a, j, none⟩ = some (.int .i32 (I j)) := by obtain ⟨q, rfl⟩ := hq; exact H1.out j hlt
      have c2 : wr.cell? ⟨b, j, none⟩ = some (.int .i32 (I j)) := by obtain ⟨q, rfl⟩ := hq; exact H2.out j hlt
      clear hq
      go_wp2
      go_quiet (fail)
      go_wp2
      go_roundw
      case rel => exact ⟨j + 1, by go_num, hlt, drawn_on HQ.out _⟩
      case measure => simp [intOf]; omega
    · have hge : ¬ ((j : Int) < n) := by omega
      clear hq
      go_wp2
      go_ret
      exact ⟨rfl, HQ.out⟩

set_option maxHeartbeats 2000000 in
set_option maxRecDepth 100000 in
theorem sameRun_at (bt bw gt gw M Mg ct cw dt dw lo hi glo ghi m : Nat) (X : Nat → Int) (Y : Nat → Nat) (hhi : hi = lo + m) (hghi : ghi = glo + m) (hM : hi ≤ M) (hMg : ghi ≤ Mg) (bM : M ≤ 1048576) (bMg : Mg ≤ 1048576) (w : World)
    (h1 : ∀ i, i < m → w.cell? ⟨bt, lo + i, none⟩ = some (.int .i32 (X i))) (h2 : ∀ i, i < m → w.cell? ⟨bw, lo + i, none⟩ = some (.float .f64 (Y i)))
    (h3 : ∀ i, i < m → w.cell? ⟨gt, glo + i, none⟩ = some (.int .i32 (X i))) (h4 : ∀ i, i < m → w.cell? ⟨gw, glo + i, none⟩ = some (.float .f64 (Y i))) :
    Calls Tryf.prog 15 #[.slice (some ⟨bt, 0, none⟩) M ct, .slice (some ⟨bw, 0, none⟩) M cw, .int .i64 lo, .int .i64 hi, .slice (some ⟨gt, 0, none⟩) Mg dt, .slice (some ⟨gw, 0, none⟩) Mg dw, .int .i64 glo, .int .i64 ghi] w fun e w' => e = .returned (.bool true) ∧ ∃ q, w' = w.drewN q := by
  have H1 : Hid (∀ i, i < m → w.cell? ⟨bt, lo + i, none⟩ = some (.int .i32 (X i))) := h1
  have H2 : Hid (∀ i, i < m → w.cell? ⟨bw, lo + i, none⟩ = some (.float .f64 (Y i))) := h2
  have H3 : Hid (∀ i, i < m → w.cell? ⟨gt, glo + i, none⟩ = some (.int .i32 (X i))) := h3
  have H4 : Hid (∀ i, i < m → w.cell? ⟨gw, glo + i, none⟩ = some (.float .f64 (Y i))) := h4
  have HE : Hid (hi = lo + m ∧ ghi = glo + m) := ⟨hhi, hghi⟩
  clear h1 h2 h3 h4
  have e1 : (hi : Int) - lo = m := by omega
  have e2 : (ghi : Int) - glo = m := by omega
  have d1 : decide (hi < lo) = false := by simp; omega
  have d2 : decide (M < hi) = false := by simp; omega
  have d3 : decide (ghi < glo) = false := by simp; omega
  have d4 : decide (Mg < ghi) = false := by simp; omega
  have bl : hi ≤ 1048576 := by omega
  have bg : ghi ≤ 1048576 := by omega
  have bm : m ≤ 1048576 := by omega
  have b1 : lo ≤ hi := by omega
  have b2 : glo ≤ ghi := by omega
  clear hhi hghi
  go_enter Tryf.func15, Tryf.ntmps15
  go_wp2
  go_loopw [17] (fun v wr => ∃ j : Nat, v = .int .i64 j ∧ j ≤ m ∧ ∃ q, wr = w.drewN q) (fun v _ => m - (intOf v).toNat)
  case atStart => exact ⟨0, rfl, Nat.zero_le _, 0, rfl⟩
  case round =>
    obtain ⟨j, rfl, hj, hq⟩ := hrel
    have HQ : Hid (∃ q, wr = w.drewN q) := hq
    by_cases hlt : j < m
    · have hlt' : (j : Int) < m := by omega
      have i1 : (lo : Int) + j < M := by have := HE.out; omega
      have i2 : (glo : Int) + j < Mg := by have := HE.out; omega
      have c1 : wr.cell? ⟨bt, lo + j, none⟩ = some (.int .i32 (X j)) := by obtain ⟨q, rfl⟩ := hq; exact H1.out j hlt
      have c2 : wr.cell? ⟨bw, lo + j, none⟩ = some (.float .f64 (Y j)) := by obtain ⟨q, rfl⟩ := hq; exact H2.out j hlt
      have c3 : wr.cell? ⟨gt, glo + j, none⟩ = some (.int .i32 (X j)) := by obtain ⟨q, rfl⟩ := hq; exact H3.out j hlt
      have c4 : wr.cell? ⟨gw, glo + j, none⟩ = some (.float .f64 (Y j)) := by obtain ⟨q, rfl⟩ := hq; exact H4.out j hlt
      clear hq
      go_wp2
      go_quiet ((go_at_call 20; exact Calls.quiet_of_same (sameFloat_self _ _)))
      go_wp2
      go_roundw
      case rel => exact ⟨j + 1, by go_num, hlt, drawn_on HQ.out _⟩
      case measure => simp [intOf]; omega
    · have hge : ¬ ((j : Int) < m) := by omega
      clear hq
      go_wp2
      go_ret
      exact ⟨rfl, HQ.out⟩
end Go.Proofs.Qxb6616522aFmt
