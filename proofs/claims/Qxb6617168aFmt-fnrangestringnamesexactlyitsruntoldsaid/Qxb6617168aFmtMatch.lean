/-
  THE WALK OF b1TextMatchesRuns at no run, at a run of one, at a run of more.
-/
import Derived.Test.Qxb6617168aFmtRows
import Derived.WalkKit
import Derived.Deep.RegionWith
namespace Go.Proofs.Qxb6617168aFmt.str
open Go.RowKit

theorem match_none (w : World) :
    Calls Tryf.prog 8 #[.string ⟨#[]⟩, .slice none 0 0, .slice none 0 0] w fun e w' => e = .returned (.bool true) ∧ w' = w := by
  have h0 : (⟨#[]⟩ : ByteArray).size = 0 := rfl
  go_enter Tryf.func8, Tryf.ntmps8
  go_wp2
  go_ret
  exact ⟨rfl, rfl⟩

set_option maxHeartbeats 1000000 in
set_option maxRecDepth 100000 in
theorem match_single (s : ByteArray) (n : Nat) (lo hi : Int) (bl bh : Nat) (w : World) (hs : s.size = n) (hn : 1 ≤ n) (hm : n ≤ 9223372036854775807) (h0 : 0 ≤ lo) (h1 : lo < hi) (h2 : hi ≤ 9223372036854775807) (he : hi - 1 = lo)
    (c0 : w.cell? ⟨bl, 0, none⟩ = some (.int .i64 lo)) (c1 : w.cell? ⟨bh, 0, none⟩ = some (.int .i64 hi))
    (hr : ∀ w : World, Calls Tryf.prog 16 #[.string s, .int .i64 0] w fun e w' => e = .returned (.tuple #[.int .i64 lo, .int .i64 n, .bool true]) ∧ w' = w) :
    Calls Tryf.prog 8 #[.string s, .slice (some ⟨bl, 0, none⟩) 1 1, .slice (some ⟨bh, 0, none⟩) 1 1] w fun e w' => e = .returned (.bool true) ∧ w' = w := by
  have HR : Hid (∀ w : World, Calls Tryf.prog 16 #[.string s, .int .i64 0] w fun e w' => e = .returned (.tuple #[.int .i64 lo, .int .i64 n, .bool true]) ∧ w' = w) := hr
  clear hr
  have hne : (hi - 1 != lo) = false := by simp; omega
  clear he
  have hz : ((n : Int) == 0) = false := by simp; omega
  go_enter Tryf.func8, Tryf.ntmps8
  go_wp2
  go_loop [7, 8] (fun k i => (k = .int .i64 0 ∧ i = .int .i64 0) ∨ (k = .int .i64 1 ∧ i = .int .i64 n)) (fun k _ => (1 - intOf k).toNat)
  case atStart => exact .inl ⟨rfl, rfl⟩
  case round =>
    rcases hrel with ⟨rfl, rfl⟩ | ⟨rfl, rfl⟩
    · go_wp2_with (go_at_call 16; refine (HR.out _).mono ?_; rintro e w' ⟨rfl, rfl⟩)
      go_round
      case rel => exact .inr ⟨rfl, rfl⟩
      case measure => simp [intOf]
    · go_wp2
      go_ret
      exact ⟨rfl, rfl⟩

set_option maxHeartbeats 1000000 in
set_option maxRecDepth 100000 in
theorem match_run (s : ByteArray) (n p : Nat) (lo hi : Int) (bl bh : Nat) (w : World) (hs : s.size = n) (hn : p + 1 < n) (hm : n ≤ 9223372036854775807) (h0 : 0 ≤ lo) (h1 : lo < hi - 1) (h2 : hi ≤ 9223372036854775807)
    (c0 : w.cell? ⟨bl, 0, none⟩ = some (.int .i64 lo)) (c1 : w.cell? ⟨bh, 0, none⟩ = some (.int .i64 hi))
    (hp : p < s.size) (hd : s[p].toNat = 45)
    (hr : ∀ w : World, Calls Tryf.prog 16 #[.string s, .int .i64 0] w fun e w' => e = .returned (.tuple #[.int .i64 lo, .int .i64 p, .bool true]) ∧ w' = w)
    (hr2 : ∀ w : World, Calls Tryf.prog 16 #[.string s, .int .i64 (p + 1)] w fun e w' => e = .returned (.tuple #[.int .i64 (hi - 1), .int .i64 n, .bool true]) ∧ w' = w) :
    Calls Tryf.prog 8 #[.string s, .slice (some ⟨bl, 0, none⟩) 1 1, .slice (some ⟨bh, 0, none⟩) 1 1] w fun e w' => e = .returned (.bool true) ∧ w' = w := by
  have HR : Hid (∀ w : World, Calls Tryf.prog 16 #[.string s, .int .i64 0] w fun e w' => e = .returned (.tuple #[.int .i64 lo, .int .i64 p, .bool true]) ∧ w' = w) := hr
  have HR2 : Hid (∀ w : World, Calls Tryf.prog 16 #[.string s, .int .i64 (p + 1)] w fun e w' => e = .returned (.tuple #[.int .i64 (hi - 1), .int .i64 n, .bool true]) ∧ w' = w) := hr2
  clear hr hr2
  have hz : ((n : Int) == 0) = false := by simp; omega
  have hle : decide (hi - 1 ≤ lo) = false := by simp; omega
  have hpn : (p : Int) < n := by omega
  go_enter Tryf.func8, Tryf.ntmps8
  go_wp2
  go_loop [7, 8] (fun k i => (k = .int .i64 0 ∧ i = .int .i64 0) ∨ (k = .int .i64 1 ∧ i = .int .i64 n)) (fun k _ => (1 - intOf k).toNat)
  case atStart => exact .inl ⟨rfl, rfl⟩
  case round =>
    rcases hrel with ⟨rfl, rfl⟩ | ⟨rfl, rfl⟩
    · go_wp2_with (first | (go_at_call_of 16 (Value.int .i64 0); refine (HR.out _).mono ?_; rintro e w' ⟨rfl, rfl⟩) | (go_at_call 16; refine (HR2.out _).mono ?_; rintro e w' ⟨rfl, rfl⟩))
      go_round
      case rel => exact .inr ⟨rfl, rfl⟩
      case measure => simp [intOf]
    · go_wp2
      go_ret
      exact ⟨rfl, rfl⟩
end Go.Proofs.Qxb6617168aFmt.str
