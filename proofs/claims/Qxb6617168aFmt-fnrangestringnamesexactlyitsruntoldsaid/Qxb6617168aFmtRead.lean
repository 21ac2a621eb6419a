/-
  THE WALKS OF b1IsDigit, b1ReadNat.
-/
import Derived.Test.Qxb6617168aFmtRows
import Derived.WalkKit
import Derived.Deep.RegionWith
namespace Go.Proofs.Qxb6617168aFmt.str
open Go.RowKit

theorem digit_yes (c : Int) (h1 : 48 ≤ c) (h2 : c ≤ 57) (w : World) :
    Calls Tryf.prog 20 #[.int .u8 c] w fun e w' => e = .returned (.bool true) ∧ w' = w := by
  go_enter Tryf.func20, Tryf.ntmps20
  go_wp2
  go_ret
  exact ⟨rfl, rfl⟩
theorem digit_no (c : Int) (h : ¬ (48 ≤ c ∧ c ≤ 57)) (w : World) :
    Calls Tryf.prog 20 #[.int .u8 c] w fun e w' => e = .returned (.bool false) ∧ w' = w := by
  by_cases h1 : c < 48
  · have hd : decide (48 ≤ c) = false := by simp; omega
    go_enter Tryf.func20, Tryf.ntmps20
    go_wp2
    go_ret
    exact ⟨rfl, rfl⟩
  · have h' : 48 ≤ c := by omega
    have hd : decide (c ≤ 57) = false := by simp; omega
    clear h
    go_enter Tryf.func20, Tryf.ntmps20
    go_wp2
    go_ret
    exact ⟨rfl, rfl⟩

/-- b1ReadNat at '0'. -/
theorem read_zero (s : ByteArray) (p : Nat) (hs : s.size ≤ maxLen) (hp : p < s.size) (h0 : s[p].toNat = 48) (w : World)
    (he : p + 1 = s.size ∨ ∃ h : p + 1 < s.size, ¬ (48 ≤ s[p + 1].toNat ∧ s[p + 1].toNat ≤ 57)) :
    Calls Tryf.prog 16 #[.string s, .int .i64 p] w fun e w' => e = .returned (.tuple #[.int .i64 0, .int .i64 (p + 1), .bool true]) ∧ w' = w := by
  unfold maxLen at hs
  rcases he with he | ⟨he, hn⟩
  · go_enter Tryf.func16, Tryf.ntmps16
    go_wp2_with (go_at_call 20; refine (digit_yes _ (by omega) (by omega) _).mono ?_; rintro e w' ⟨rfl, rfl⟩)
    go_ret3
    exact ⟨rfl, rfl⟩
  · obtain ⟨c, hc⟩ : ∃ c, s[p + 1].toNat = c := ⟨_, rfl⟩
    rw [hc] at hn
    go_enter Tryf.func16, Tryf.ntmps16
    go_wp2_with (first | (go_at_call_of 20 (Value.int .u8 48); refine (digit_yes _ (by omega) (by omega) _).mono ?_; rintro e w' ⟨rfl, rfl⟩) | (go_at_call 20; refine (digit_no _ (by omega) _).mono ?_; rintro e w' ⟨rfl, rfl⟩))
    go_ret3
    exact ⟨rfl, rfl⟩
set_option maxHeartbeats 1000000 in
/-- b1ReadNat at a numeral that does not open with '0'. -/
theorem read_num (s : ByteArray) (p n : Nat) (V : Nat → Nat) (hs : s.size ≤ maxLen) (hn : 1 ≤ n) (hpn : p + n ≤ s.size) (hV0 : V p = 0)
    (hd : ∀ j, p ≤ j → j < p + n → ∀ h : j < s.size, 48 ≤ s[j].toNat ∧ s[j].toNat ≤ 57 ∧ V (j + 1) = V j * 10 + (s[j].toNat - 48))
    (hV : ∀ j, p ≤ j → j ≤ p + n → V j ≤ 9223372036854775807) (h48 : ∀ h : p < s.size, s[p].toNat ≠ 48) (w : World)
    (he : ∀ h : p + n < s.size, ¬ (48 ≤ s[p + n].toNat ∧ s[p + n].toNat ≤ 57)) :
    Calls Tryf.prog 16 #[.string s, .int .i64 p] w fun e w' => e = .returned (.tuple #[.int .i64 (V (p + n)), .int .i64 ↑(p + n), .bool true]) ∧ w' = w := by
  unfold maxLen at hs
  have hp : p < s.size := by omega
  have HD : Hid (∀ j, p ≤ j → j < p + n → ∀ h : j < s.size, 48 ≤ s[j].toNat ∧ s[j].toNat ≤ 57 ∧ V (j + 1) = V j * 10 + (s[j].toNat - 48)) := hd
  have HV : Hid (∀ j, p ≤ j → j ≤ p + n → V j ≤ 9223372036854775807) := hV
  have HE : Hid (∀ h : p + n < s.size, ¬ (48 ≤ s[p + n].toNat ∧ s[p + n].toNat ≤ 57)) := he
  have H0 : Hid (V p = 0) := hV0
  have d0 := hd p (by omega) (by omega) hp
  have n0 := h48 hp
  clear hd hV he h48 hV0
  obtain ⟨c, hc⟩ : ∃ c, s[p].toNat = c := ⟨_, rfl⟩
  rw [hc] at d0 n0
  obtain ⟨g1, g2, _⟩ := d0
  have hdp : decide (s.size ≤ p) = false := by simp; omega
  have n1 : ((c : Int) == 48) = false := by simp; omega
  go_enter Tryf.func16, Tryf.ntmps16
  go_wp2_with (go_at_call 20; refine (digit_yes _ (by omega) (by omega) _).mono ?_; rintro e w' ⟨rfl, rfl⟩)
  clear hdp n1 n0 g1 g2 hc
  go_loop [7, 8] (fun v i => ∃ j : Nat, p ≤ j ∧ j ≤ p + n ∧ i = .int .i64 j ∧ v = .int .i64 (V j)) (fun _ i => p + n - (intOf i).toNat)
  case atStart => exact ⟨p, by omega, by omega, rfl, by rw [H0.out]; rfl⟩
  case round =>
    obtain ⟨j, hj1, hj2, rfl, rfl⟩ := hrel
    by_cases hlt : j < p + n
    · have hjs : j < s.size := by omega
      obtain ⟨g1, g2, g3⟩ := HD.out j hj1 hlt hjs
      obtain ⟨c, hc⟩ : ∃ c, s[j].toNat = c := ⟨_, rfl⟩
      rw [hc] at g1 g2 g3
      have b1 := HV.out (j + 1) (by omega) (by omega)
      have G3 : Hid (V (j + 1) = V j * 10 + (c - 48)) := g3
      have hno : ¬ ((9223372036854775807 - ((c : Int) - 48)) / 10 < (V j : Int)) := by omega
      have hw : (V j : Int) * 10 + ((c : Int) - 48) ≤ 9223372036854775807 := by omega
      have hv0 : (0 : Int) ≤ V j := by omega
      clear g3 b1
      go_wp2_with (go_at_call 20; refine (digit_yes _ (by omega) (by omega) _).mono ?_; rintro e w' ⟨rfl, rfl⟩)
      go_round
      case rel => exact ⟨j + 1, by omega, by omega, by go_num, by have := G3.out; exact congrArg (Value.int .i64) (by omega)⟩
      case measure => simp [intOf]; omega
    · obtain rfl : j = p + n := by omega
      by_cases hsz : p + n < s.size
      · have g := HE.out hsz
        obtain ⟨c, hc⟩ : ∃ c, s[p + n].toNat = c := ⟨_, rfl⟩
        rw [hc] at g
        go_wp2_with (go_at_call 20; refine (digit_no _ (by omega) _).mono ?_; rintro e w' ⟨rfl, rfl⟩)
        go_ret3
        exact ⟨rfl, rfl⟩
      · have hdz : decide ((p : Int) + n < s.size) = false := by simp; omega
        go_wp2
        go_ret3
        exact ⟨rfl, rfl⟩
end Go.Proofs.Qxb6617168aFmt.str
