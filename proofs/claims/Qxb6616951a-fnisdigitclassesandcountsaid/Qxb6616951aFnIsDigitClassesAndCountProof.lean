/-
  THE PROOF OF 'Rows.FnIsDigitClassesAndCountSaid' ('example.com/helmstone/helmstone/zzlaws_lua_b1.FnIsDigitClassesAndCount'), WRITTEN BY PROGRAM (proof-skeleton.mjs) off the guide's own print for that function. Not trusted: Lean checks it.
-/
import Derived.Test.Qxb6616951aRows
import Derived.WalkKit
import Derived.ProofKit
import Derived.OpenShut
import Derived.ShutString
import Derived.Deep.RegionWith
namespace Go.Proofs.Qxb6616951a.fnIsDigitClassesAndCount
open Go.ChangeShapes Go.WideShapes Go.ChangeAt Go.RowKit
open Go.ChangeMaps (open_string shut_string)
set_option linter.unusedVariables false      -- a walk need not use every 'w<i>' (that an integer argument fits its kind)

theorem own : ownKnob Try.prog.godebug = none := by kernel_rfl

/-! ### THE PLAIN COUNT: how many of 0 .. k-1 are digits -/
def cntD (k : Nat) : Int := if (k : Int) ≤ 48 then 0 else if (k : Int) ≤ 58 then k - 48 else 10
theorem cntD_bd (k : Nat) : 0 ≤ cntD k ∧ cntD k ≤ 10 := by unfold cntD; split <;> (try split) <;> omega
theorem cntD_yes (k : Nat) (h1 : 48 ≤ (k : Int)) (h2 : (k : Int) ≤ 57) : cntD (k + 1) = cntD k + 1 := by
  unfold cntD; repeat split
  all_goals omega
theorem cntD_no (k : Nat) (h : (k : Int) < 48 ∨ 57 < (k : Int)) : cntD (k + 1) = cntD k := by
  unfold cntD; repeat split
  all_goals omega
theorem cnt_lo (k : Nat) (h : (k : Int) ≤ 48) : cntD k = 0 := by unfold cntD; rw [if_pos h]
theorem cnt_mid (k : Nat) (a : Int) (h : (k : Int) = a + 1) (h1 : 48 ≤ a) (h2 : a ≤ 57) : cntD k = a - 47 := by
  unfold cntD; rw [if_neg (by omega), if_pos (by omega)]; omega
theorem cnt_hi (k : Nat) (h : 59 ≤ (k : Int)) : cntD k = 10 := by unfold cntD; rw [if_neg (by omega), if_neg (by omega)]
theorem bits_d : bits .or .u8 100 32 = 100 := by decide +kernel
theorem bits_D : bits .or .u8 68 32 = 100 := by decide +kernel
theorem bits_a : bits .or .u8 97 32 = 97 := by decide +kernel
theorem bits_p : bits .or .u8 112 32 = 112 := by decide +kernel
theorem ret_int {k : IntKind} {a b : Int} (h : a = b) : Ending.returned (.int k a) = .returned (.int k b) := by rw [h]
/-- ZZisDigit. -/
theorem digit_yes (c : Int) (h1 : 48 ≤ c) (h2 : c ≤ 57) (w : World) :
    Calls Try.prog 6 #[.int .u8 c] w fun e w' => e = .returned (.bool true) ∧ w' = w := by
  go_enter Try.func6, Try.ntmps6
  go_wp2
  go_ret
  exact ⟨rfl, rfl⟩
theorem digit_no (c : Int) (h : c < 48 ∨ 57 < c) (w : World) :
    Calls Try.prog 6 #[.int .u8 c] w fun e w' => e = .returned (.bool false) ∧ w' = w := by
  rcases h with h | h
  · go_enter Try.func6, Try.ntmps6
    go_wp2
    go_ret
    exact ⟨rfl, rfl⟩
  · have h' : 48 ≤ c := by omega
    have hd : decide (c ≤ 57) = false := by simp; omega
    go_enter Try.func6, Try.ntmps6
    go_wp2
    go_ret
    exact ⟨rfl, rfl⟩

theorem c0_7_100 (a0 : Int) (lo : 0 ≤ a0) (hi : a0 ≤ 31) (w : World) :
    Calls Try.prog 7 #[.int .u8 a0, .int .u8 100] w fun e w' => e = .returned (.bool false) ∧ w' = w := by
  have b1 := bits_d
  have d57 : decide (a0 ≤ 57) = true := by simp; omega
  have d90 : decide (a0 ≤ 90) = true := by simp; omega
  have d122 : decide (a0 ≤ 122) = true := by simp; omega
  have d126 : decide (a0 ≤ 126) = true := by simp; omega
  have n95 : (a0 == 95) = false := by simp; omega
  have n95b : (a0 != 95) = true := by simp; omega
  go_enter Try.func7, Try.ntmps7
  go_wp2
  go_ret
  exact ⟨rfl, rfl⟩
theorem c0_7_68 (a0 : Int) (lo : 0 ≤ a0) (hi : a0 ≤ 31) (w : World) :
    Calls Try.prog 7 #[.int .u8 a0, .int .u8 68] w fun e w' => e = .returned (.bool true) ∧ w' = w := by
  have b1 := bits_D
  have d57 : decide (a0 ≤ 57) = true := by simp; omega
  have d90 : decide (a0 ≤ 90) = true := by simp; omega
  have d122 : decide (a0 ≤ 122) = true := by simp; omega
  have d126 : decide (a0 ≤ 126) = true := by simp; omega
  have n95 : (a0 == 95) = false := by simp; omega
  have n95b : (a0 != 95) = true := by simp; omega
  go_enter Try.func7, Try.ntmps7
  go_wp2
  go_ret
  exact ⟨rfl, rfl⟩
theorem c0_7_97 (a0 : Int) (lo : 0 ≤ a0) (hi : a0 ≤ 31) (w : World) :
    Calls Try.prog 7 #[.int .u8 a0, .int .u8 97] w fun e w' => e = .returned (.bool false) ∧ w' = w := by
  have b1 := bits_a
  have d57 : decide (a0 ≤ 57) = true := by simp; omega
  have d90 : decide (a0 ≤ 90) = true := by simp; omega
  have d122 : decide (a0 ≤ 122) = true := by simp; omega
  have d126 : decide (a0 ≤ 126) = true := by simp; omega
  have n95 : (a0 == 95) = false := by simp; omega
  have n95b : (a0 != 95) = true := by simp; omega
  go_enter Try.func7, Try.ntmps7
  go_wp2
  go_ret
  exact ⟨rfl, rfl⟩
theorem c0_7_112 (a0 : Int) (lo : 0 ≤ a0) (hi : a0 ≤ 31) (w : World) :
    Calls Try.prog 7 #[.int .u8 a0, .int .u8 112] w fun e w' => e = .returned (.bool false) ∧ w' = w := by
  have b1 := bits_p
  have d57 : decide (a0 ≤ 57) = true := by simp; omega
  have d90 : decide (a0 ≤ 90) = true := by simp; omega
  have d122 : decide (a0 ≤ 122) = true := by simp; omega
  have d126 : decide (a0 ≤ 126) = true := by simp; omega
  have n95 : (a0 == 95) = false := by simp; omega
  have n95b : (a0 != 95) = true := by simp; omega
  go_enter Try.func7, Try.ntmps7
  go_wp2
  go_ret
  exact ⟨rfl, rfl⟩
theorem c0_8 (a0 : Int) (lo : 0 ≤ a0) (hi : a0 ≤ 31) (w : World) :
    Calls Try.prog 8 #[.int .u8 a0] w fun e w' => e = .returned (.bool false) ∧ w' = w := by
  have d57 : decide (a0 ≤ 57) = true := by simp; omega
  have d90 : decide (a0 ≤ 90) = true := by simp; omega
  have d122 : decide (a0 ≤ 122) = true := by simp; omega
  have d126 : decide (a0 ≤ 126) = true := by simp; omega
  have n95 : (a0 == 95) = false := by simp; omega
  have n95b : (a0 != 95) = true := by simp; omega
  go_enter Try.func8, Try.ntmps8
  go_wp2
  go_ret
  exact ⟨rfl, rfl⟩
theorem c0_9 (a0 : Int) (lo : 0 ≤ a0) (hi : a0 ≤ 31) (w : World) :
    Calls Try.prog 9 #[.int .u8 a0] w fun e w' => e = .returned (.bool false) ∧ w' = w := by
  have d57 : decide (a0 ≤ 57) = true := by simp; omega
  have d90 : decide (a0 ≤ 90) = true := by simp; omega
  have d122 : decide (a0 ≤ 122) = true := by simp; omega
  have d126 : decide (a0 ≤ 126) = true := by simp; omega
  have n95 : (a0 == 95) = false := by simp; omega
  have n95b : (a0 != 95) = true := by simp; omega
  go_enter Try.func9, Try.ntmps9
  go_wp2
  go_ret
  exact ⟨rfl, rfl⟩
set_option maxHeartbeats 1000000 in
theorem walk0 (a0 : Int) (lo : 0 ≤ a0) (hi : a0 ≤ 31) (w : World) :
    Calls Try.prog 3 #[.int .u8 a0] w fun e w' => e = .returned (.bool true) ∧ w' = w := by
  have d57 : decide (a0 ≤ 57) = true := by simp; omega
  have d90 : decide (a0 ≤ 90) = true := by simp; omega
  have d122 : decide (a0 ≤ 122) = true := by simp; omega
  have d126 : decide (a0 ≤ 126) = true := by simp; omega
  have n95 : (a0 == 95) = false := by simp; omega
  have n95b : (a0 != 95) = true := by simp; omega
  go_enter Try.func3, Try.ntmps3
  go_wp2_with (first | (go_at_call 6; refine (digit_no _ (.inl (by omega)) _).mono ?_; rintro e w' ⟨rfl, rfl⟩) | (go_at_call_of 7 (Value.int .u8 100); refine (c0_7_100 _ (by omega) (by omega) _).mono ?_; rintro e w' ⟨rfl, rfl⟩) | (go_at_call_of 7 (Value.int .u8 68); refine (c0_7_68 _ (by omega) (by omega) _).mono ?_; rintro e w' ⟨rfl, rfl⟩) | (go_at_call_of 7 (Value.int .u8 97); refine (c0_7_97 _ (by omega) (by omega) _).mono ?_; rintro e w' ⟨rfl, rfl⟩) | (go_at_call_of 7 (Value.int .u8 112); refine (c0_7_112 _ (by omega) (by omega) _).mono ?_; rintro e w' ⟨rfl, rfl⟩) | (go_at_call 8; refine (c0_8 _ (by omega) (by omega) _).mono ?_; rintro e w' ⟨rfl, rfl⟩) | (go_at_call 9; refine (c0_9 _ (by omega) (by omega) _).mono ?_; rintro e w' ⟨rfl, rfl⟩))
  go_loop [5, 6] (fun n b => ∃ k : Nat, (k : Int) ≤ a0 + 1 ∧ b = .int .i64 k ∧ n = .int .i64 (cntD k)) (fun _ b => (a0 + 1 - intOf b).toNat)
  case atStart => exact ⟨0, by omega, rfl, rfl⟩
  case round =>
    obtain ⟨k, hk, rfl, rfl⟩ := hrel
    have hd := cntD_bd k
    by_cases hlt : (k : Int) ≤ a0
    · by_cases h1 : (k : Int) < 48
      · have HS : Hid (cntD (k + 1) = cntD k) := cntD_no k (.inl h1)
        go_wp2_with (go_at_call 6; refine (digit_no _ (.inl (by omega)) _).mono ?_; rintro e w' ⟨rfl, rfl⟩)
        go_round
        case rel => exact ⟨k + 1, by omega, by go_num, by rw [HS.out]⟩
        case measure => simp [intOf]; omega
      · by_cases h2 : (k : Int) ≤ 57
        · have HS : Hid (cntD (k + 1) = cntD k + 1) := cntD_yes k (by omega) h2
          go_wp2_with (go_at_call 6; refine (digit_yes _ (by omega) (by omega) _).mono ?_; rintro e w' ⟨rfl, rfl⟩)
          go_round
          case rel => exact ⟨k + 1, by omega, by go_num, by rw [HS.out]⟩
          case measure => simp [intOf]; omega
        · have HS : Hid (cntD (k + 1) = cntD k) := cntD_no k (.inr (by omega))
          go_wp2_with (go_at_call 6; refine (digit_no _ (.inr (by omega)) _).mono ?_; rintro e w' ⟨rfl, rfl⟩)
          go_round
          case rel => exact ⟨k + 1, by omega, by go_num, by rw [HS.out]⟩
          case measure => simp [intOf]; omega
    · have hkk : (k : Int) = a0 + 1 := by omega
      have HC : Hid (cntD k = 0) := cnt_lo k (by omega)
      clear hkk
      rw [HC.out]
      go_wp2
      go_ret
      exact ⟨rfl, rfl⟩
theorem c1_7_100 (a0 : Int) (lo : 32 ≤ a0) (hi : a0 ≤ 32) (w : World) :
    Calls Try.prog 7 #[.int .u8 a0, .int .u8 100] w fun e w' => e = .returned (.bool false) ∧ w' = w := by
  have b1 := bits_d
  obtain rfl : a0 = 32 := by omega
  clear lo hi
  go_enter Try.func7, Try.ntmps7
  go_wp2
  go_ret
  exact ⟨rfl, rfl⟩
theorem c1_7_68 (a0 : Int) (lo : 32 ≤ a0) (hi : a0 ≤ 32) (w : World) :
    Calls Try.prog 7 #[.int .u8 a0, .int .u8 68] w fun e w' => e = .returned (.bool true) ∧ w' = w := by
  have b1 := bits_D
  obtain rfl : a0 = 32 := by omega
  clear lo hi
  go_enter Try.func7, Try.ntmps7
  go_wp2
  go_ret
  exact ⟨rfl, rfl⟩
theorem c1_7_97 (a0 : Int) (lo : 32 ≤ a0) (hi : a0 ≤ 32) (w : World) :
    Calls Try.prog 7 #[.int .u8 a0, .int .u8 97] w fun e w' => e = .returned (.bool false) ∧ w' = w := by
  have b1 := bits_a
  obtain rfl : a0 = 32 := by omega
  clear lo hi
  go_enter Try.func7, Try.ntmps7
  go_wp2
  go_ret
  exact ⟨rfl, rfl⟩
theorem c1_7_112 (a0 : Int) (lo : 32 ≤ a0) (hi : a0 ≤ 32) (w : World) :
    Calls Try.prog 7 #[.int .u8 a0, .int .u8 112] w fun e w' => e = .returned (.bool false) ∧ w' = w := by
  have b1 := bits_p
  obtain rfl : a0 = 32 := by omega
  clear lo hi
  go_enter Try.func7, Try.ntmps7
  go_wp2
  go_ret
  exact ⟨rfl, rfl⟩
theorem c1_8 (a0 : Int) (lo : 32 ≤ a0) (hi : a0 ≤ 32) (w : World) :
    Calls Try.prog 8 #[.int .u8 a0] w fun e w' => e = .returned (.bool false) ∧ w' = w := by
  obtain rfl : a0 = 32 := by omega
  clear lo hi
  go_enter Try.func8, Try.ntmps8
  go_wp2
  go_ret
  exact ⟨rfl, rfl⟩
theorem c1_9 (a0 : Int) (lo : 32 ≤ a0) (hi : a0 ≤ 32) (w : World) :
    Calls Try.prog 9 #[.int .u8 a0] w fun e w' => e = .returned (.bool false) ∧ w' = w := by
  obtain rfl : a0 = 32 := by omega
  clear lo hi
  go_enter Try.func9, Try.ntmps9
  go_wp2
  go_ret
  exact ⟨rfl, rfl⟩
set_option maxHeartbeats 1000000 in
theorem walk1 (a0 : Int) (lo : 32 ≤ a0) (hi : a0 ≤ 32) (w : World) :
    Calls Try.prog 3 #[.int .u8 a0] w fun e w' => e = .returned (.bool true) ∧ w' = w := by
  obtain rfl : a0 = 32 := by omega
  clear lo hi
  go_enter Try.func3, Try.ntmps3
  go_wp2_with (first | (go_at_call 6; refine (digit_no _ (.inl (by omega)) _).mono ?_; rintro e w' ⟨rfl, rfl⟩) | (go_at_call_of 7 (Value.int .u8 100); refine (c1_7_100 _ (by omega) (by omega) _).mono ?_; rintro e w' ⟨rfl, rfl⟩) | (go_at_call_of 7 (Value.int .u8 68); refine (c1_7_68 _ (by omega) (by omega) _).mono ?_; rintro e w' ⟨rfl, rfl⟩) | (go_at_call_of 7 (Value.int .u8 97); refine (c1_7_97 _ (by omega) (by omega) _).mono ?_; rintro e w' ⟨rfl, rfl⟩) | (go_at_call_of 7 (Value.int .u8 112); refine (c1_7_112 _ (by omega) (by omega) _).mono ?_; rintro e w' ⟨rfl, rfl⟩) | (go_at_call 8; refine (c1_8 _ (by omega) (by omega) _).mono ?_; rintro e w' ⟨rfl, rfl⟩) | (go_at_call 9; refine (c1_9 _ (by omega) (by omega) _).mono ?_; rintro e w' ⟨rfl, rfl⟩))
  go_loop [5, 6] (fun n b => ∃ k : Nat, (k : Int) ≤ 32 + 1 ∧ b = .int .i64 k ∧ n = .int .i64 (cntD k)) (fun _ b => (32 + 1 - intOf b).toNat)
  case atStart => exact ⟨0, by omega, rfl, rfl⟩
  case round =>
    obtain ⟨k, hk, rfl, rfl⟩ := hrel
    have hd := cntD_bd k
    by_cases hlt : (k : Int) ≤ 32
    · by_cases h1 : (k : Int) < 48
      · have HS : Hid (cntD (k + 1) = cntD k) := cntD_no k (.inl h1)
        go_wp2_with (go_at_call 6; refine (digit_no _ (.inl (by omega)) _).mono ?_; rintro e w' ⟨rfl, rfl⟩)
        go_round
        case rel => exact ⟨k + 1, by omega, by go_num, by rw [HS.out]⟩
        case measure => simp [intOf]; omega
      · by_cases h2 : (k : Int) ≤ 57
        · have HS : Hid (cntD (k + 1) = cntD k + 1) := cntD_yes k (by omega) h2
          go_wp2_with (go_at_call 6; refine (digit_yes _ (by omega) (by omega) _).mono ?_; rintro e w' ⟨rfl, rfl⟩)
          go_round
          case rel => exact ⟨k + 1, by omega, by go_num, by rw [HS.out]⟩
          case measure => simp [intOf]; omega
        · have HS : Hid (cntD (k + 1) = cntD k) := cntD_no k (.inr (by omega))
          go_wp2_with (go_at_call 6; refine (digit_no _ (.inr (by omega)) _).mono ?_; rintro e w' ⟨rfl, rfl⟩)
          go_round
          case rel => exact ⟨k + 1, by omega, by go_num, by rw [HS.out]⟩
          case measure => simp [intOf]; omega
    · have hkk : (k : Int) = 32 + 1 := by omega
      have HC : Hid (cntD k = 0) := cnt_lo k (by omega)
      clear hkk
      rw [HC.out]
      go_wp2
      go_ret
      exact ⟨rfl, rfl⟩
theorem c2_7_100 (a0 : Int) (lo : 33 ≤ a0) (hi : a0 ≤ 46) (w : World) :
    Calls Try.prog 7 #[.int .u8 a0, .int .u8 100] w fun e w' => e = .returned (.bool false) ∧ w' = w := by
  have b1 := bits_d
  have d57 : decide (a0 ≤ 57) = true := by simp; omega
  have d90 : decide (a0 ≤ 90) = true := by simp; omega
  have d122 : decide (a0 ≤ 122) = true := by simp; omega
  have d126 : decide (a0 ≤ 126) = true := by simp; omega
  have n95 : (a0 == 95) = false := by simp; omega
  have n95b : (a0 != 95) = true := by simp; omega
  go_enter Try.func7, Try.ntmps7
  go_wp2
  go_ret
  exact ⟨rfl, rfl⟩
theorem c2_7_68 (a0 : Int) (lo : 33 ≤ a0) (hi : a0 ≤ 46) (w : World) :
    Calls Try.prog 7 #[.int .u8 a0, .int .u8 68] w fun e w' => e = .returned (.bool true) ∧ w' = w := by
  have b1 := bits_D
  have d57 : decide (a0 ≤ 57) = true := by simp; omega
  have d90 : decide (a0 ≤ 90) = true := by simp; omega
  have d122 : decide (a0 ≤ 122) = true := by simp; omega
  have d126 : decide (a0 ≤ 126) = true := by simp; omega
  have n95 : (a0 == 95) = false := by simp; omega
  have n95b : (a0 != 95) = true := by simp; omega
  go_enter Try.func7, Try.ntmps7
  go_wp2
  go_ret
  exact ⟨rfl, rfl⟩
theorem c2_7_97 (a0 : Int) (lo : 33 ≤ a0) (hi : a0 ≤ 46) (w : World) :
    Calls Try.prog 7 #[.int .u8 a0, .int .u8 97] w fun e w' => e = .returned (.bool false) ∧ w' = w := by
  have b1 := bits_a
  have d57 : decide (a0 ≤ 57) = true := by simp; omega
  have d90 : decide (a0 ≤ 90) = true := by simp; omega
  have d122 : decide (a0 ≤ 122) = true := by simp; omega
  have d126 : decide (a0 ≤ 126) = true := by simp; omega
  have n95 : (a0 == 95) = false := by simp; omega
  have n95b : (a0 != 95) = true := by simp; omega
  go_enter Try.func7, Try.ntmps7
  go_wp2
  go_ret
  exact ⟨rfl, rfl⟩
theorem c2_7_112 (a0 : Int) (lo : 33 ≤ a0) (hi : a0 ≤ 46) (w : World) :
    Calls Try.prog 7 #[.int .u8 a0, .int .u8 112] w fun e w' => e = .returned (.bool true) ∧ w' = w := by
  have b1 := bits_p
  have d57 : decide (a0 ≤ 57) = true := by simp; omega
  have d90 : decide (a0 ≤ 90) = true := by simp; omega
  have d122 : decide (a0 ≤ 122) = true := by simp; omega
  have d126 : decide (a0 ≤ 126) = true := by simp; omega
  have n95 : (a0 == 95) = false := by simp; omega
  have n95b : (a0 != 95) = true := by simp; omega
  go_enter Try.func7, Try.ntmps7
  go_wp2
  go_ret
  exact ⟨rfl, rfl⟩
theorem c2_8 (a0 : Int) (lo : 33 ≤ a0) (hi : a0 ≤ 46) (w : World) :
    Calls Try.prog 8 #[.int .u8 a0] w fun e w' => e = .returned (.bool false) ∧ w' = w := by
  have d57 : decide (a0 ≤ 57) = true := by simp; omega
  have d90 : decide (a0 ≤ 90) = true := by simp; omega
  have d122 : decide (a0 ≤ 122) = true := by simp; omega
  have d126 : decide (a0 ≤ 126) = true := by simp; omega
  have n95 : (a0 == 95) = false := by simp; omega
  have n95b : (a0 != 95) = true := by simp; omega
  go_enter Try.func8, Try.ntmps8
  go_wp2
  go_ret
  exact ⟨rfl, rfl⟩
theorem c2_9 (a0 : Int) (lo : 33 ≤ a0) (hi : a0 ≤ 46) (w : World) :
    Calls Try.prog 9 #[.int .u8 a0] w fun e w' => e = .returned (.bool false) ∧ w' = w := by
  have d57 : decide (a0 ≤ 57) = true := by simp; omega
  have d90 : decide (a0 ≤ 90) = true := by simp; omega
  have d122 : decide (a0 ≤ 122) = true := by simp; omega
  have d126 : decide (a0 ≤ 126) = true := by simp; omega
  have n95 : (a0 == 95) = false := by simp; omega
  have n95b : (a0 != 95) = true := by simp; omega
  go_enter Try.func9, Try.ntmps9
  go_wp2
  go_ret
  exact ⟨rfl, rfl⟩
set_option maxHeartbeats 1000000 in
theorem walk2 (a0 : Int) (lo : 33 ≤ a0) (hi : a0 ≤ 46) (w : World) :
    Calls Try.prog 3 #[.int .u8 a0] w fun e w' => e = .returned (.bool true) ∧ w' = w := by
  have d57 : decide (a0 ≤ 57) = true := by simp; omega
  have d90 : decide (a0 ≤ 90) = true := by simp; omega
  have d122 : decide (a0 ≤ 122) = true := by simp; omega
  have d126 : decide (a0 ≤ 126) = true := by simp; omega
  have n95 : (a0 == 95) = false := by simp; omega
  have n95b : (a0 != 95) = true := by simp; omega
  go_enter Try.func3, Try.ntmps3
  go_wp2_with (first | (go_at_call 6; refine (digit_no _ (.inl (by omega)) _).mono ?_; rintro e w' ⟨rfl, rfl⟩) | (go_at_call_of 7 (Value.int .u8 100); refine (c2_7_100 _ (by omega) (by omega) _).mono ?_; rintro e w' ⟨rfl, rfl⟩) | (go_at_call_of 7 (Value.int .u8 68); refine (c2_7_68 _ (by omega) (by omega) _).mono ?_; rintro e w' ⟨rfl, rfl⟩) | (go_at_call_of 7 (Value.int .u8 97); refine (c2_7_97 _ (by omega) (by omega) _).mono ?_; rintro e w' ⟨rfl, rfl⟩) | (go_at_call_of 7 (Value.int .u8 112); refine (c2_7_112 _ (by omega) (by omega) _).mono ?_; rintro e w' ⟨rfl, rfl⟩) | (go_at_call 8; refine (c2_8 _ (by omega) (by omega) _).mono ?_; rintro e w' ⟨rfl, rfl⟩) | (go_at_call 9; refine (c2_9 _ (by omega) (by omega) _).mono ?_; rintro e w' ⟨rfl, rfl⟩))
  go_loop [5, 6] (fun n b => ∃ k : Nat, (k : Int) ≤ a0 + 1 ∧ b = .int .i64 k ∧ n = .int .i64 (cntD k)) (fun _ b => (a0 + 1 - intOf b).toNat)
  case atStart => exact ⟨0, by omega, rfl, rfl⟩
  case round =>
    obtain ⟨k, hk, rfl, rfl⟩ := hrel
    have hd := cntD_bd k
    by_cases hlt : (k : Int) ≤ a0
    · by_cases h1 : (k : Int) < 48
      · have HS : Hid (cntD (k + 1) = cntD k) := cntD_no k (.inl h1)
        go_wp2_with (go_at_call 6; refine (digit_no _ (.inl (by omega)) _).mono ?_; rintro e w' ⟨rfl, rfl⟩)
        go_round
        case rel => exact ⟨k + 1, by omega, by go_num, by rw [HS.out]⟩
        case measure => simp [intOf]; omega
      · by_cases h2 : (k : Int) ≤ 57
        · have HS : Hid (cntD (k + 1) = cntD k + 1) := cntD_yes k (by omega) h2
          go_wp2_with (go_at_call 6; refine (digit_yes _ (by omega) (by omega) _).mono ?_; rintro e w' ⟨rfl, rfl⟩)
          go_round
          case rel => exact ⟨k + 1, by omega, by go_num, by rw [HS.out]⟩
          case measure => simp [intOf]; omega
        · have HS : Hid (cntD (k + 1) = cntD k) := cntD_no k (.inr (by omega))
          go_wp2_with (go_at_call 6; refine (digit_no _ (.inr (by omega)) _).mono ?_; rintro e w' ⟨rfl, rfl⟩)
          go_round
          case rel => exact ⟨k + 1, by omega, by go_num, by rw [HS.out]⟩
          case measure => simp [intOf]; omega
    · have hkk : (k : Int) = a0 + 1 := by omega
      have HC : Hid (cntD k = 0) := cnt_lo k (by omega)
      clear hkk
      rw [HC.out]
      go_wp2
      go_ret
      exact ⟨rfl, rfl⟩
theorem c3_7_100 (a0 : Int) (lo : 47 ≤ a0) (hi : a0 ≤ 47) (w : World) :
    Calls Try.prog 7 #[.int .u8 a0, .int .u8 100] w fun e w' => e = .returned (.bool false) ∧ w' = w := by
  have b1 := bits_d
  obtain rfl : a0 = 47 := by omega
  clear lo hi
  go_enter Try.func7, Try.ntmps7
  go_wp2
  go_ret
  exact ⟨rfl, rfl⟩
theorem c3_7_68 (a0 : Int) (lo : 47 ≤ a0) (hi : a0 ≤ 47) (w : World) :
    Calls Try.prog 7 #[.int .u8 a0, .int .u8 68] w fun e w' => e = .returned (.bool true) ∧ w' = w := by
  have b1 := bits_D
  obtain rfl : a0 = 47 := by omega
  clear lo hi
  go_enter Try.func7, Try.ntmps7
  go_wp2
  go_ret
  exact ⟨rfl, rfl⟩
theorem c3_7_97 (a0 : Int) (lo : 47 ≤ a0) (hi : a0 ≤ 47) (w : World) :
    Calls Try.prog 7 #[.int .u8 a0, .int .u8 97] w fun e w' => e = .returned (.bool false) ∧ w' = w := by
  have b1 := bits_a
  obtain rfl : a0 = 47 := by omega
  clear lo hi
  go_enter Try.func7, Try.ntmps7
  go_wp2
  go_ret
  exact ⟨rfl, rfl⟩
theorem c3_7_112 (a0 : Int) (lo : 47 ≤ a0) (hi : a0 ≤ 47) (w : World) :
    Calls Try.prog 7 #[.int .u8 a0, .int .u8 112] w fun e w' => e = .returned (.bool true) ∧ w' = w := by
  have b1 := bits_p
  obtain rfl : a0 = 47 := by omega
  clear lo hi
  go_enter Try.func7, Try.ntmps7
  go_wp2
  go_ret
  exact ⟨rfl, rfl⟩
theorem c3_8 (a0 : Int) (lo : 47 ≤ a0) (hi : a0 ≤ 47) (w : World) :
    Calls Try.prog 8 #[.int .u8 a0] w fun e w' => e = .returned (.bool false) ∧ w' = w := by
  obtain rfl : a0 = 47 := by omega
  clear lo hi
  go_enter Try.func8, Try.ntmps8
  go_wp2
  go_ret
  exact ⟨rfl, rfl⟩
theorem c3_9 (a0 : Int) (lo : 47 ≤ a0) (hi : a0 ≤ 47) (w : World) :
    Calls Try.prog 9 #[.int .u8 a0] w fun e w' => e = .returned (.bool false) ∧ w' = w := by
  obtain rfl : a0 = 47 := by omega
  clear lo hi
  go_enter Try.func9, Try.ntmps9
  go_wp2
  go_ret
  exact ⟨rfl, rfl⟩
set_option maxHeartbeats 1000000 in
theorem walk3 (a0 : Int) (lo : 47 ≤ a0) (hi : a0 ≤ 47) (w : World) :
    Calls Try.prog 3 #[.int .u8 a0] w fun e w' => e = .returned (.bool true) ∧ w' = w := by
  obtain rfl : a0 = 47 := by omega
  clear lo hi
  go_enter Try.func3, Try.ntmps3
  go_wp2_with (first | (go_at_call 6; refine (digit_no _ (.inl (by omega)) _).mono ?_; rintro e w' ⟨rfl, rfl⟩) | (go_at_call_of 7 (Value.int .u8 100); refine (c3_7_100 _ (by omega) (by omega) _).mono ?_; rintro e w' ⟨rfl, rfl⟩) | (go_at_call_of 7 (Value.int .u8 68); refine (c3_7_68 _ (by omega) (by omega) _).mono ?_; rintro e w' ⟨rfl, rfl⟩) | (go_at_call_of 7 (Value.int .u8 97); refine (c3_7_97 _ (by omega) (by omega) _).mono ?_; rintro e w' ⟨rfl, rfl⟩) | (go_at_call_of 7 (Value.int .u8 112); refine (c3_7_112 _ (by omega) (by omega) _).mono ?_; rintro e w' ⟨rfl, rfl⟩) | (go_at_call 8; refine (c3_8 _ (by omega) (by omega) _).mono ?_; rintro e w' ⟨rfl, rfl⟩) | (go_at_call 9; refine (c3_9 _ (by omega) (by omega) _).mono ?_; rintro e w' ⟨rfl, rfl⟩))
  go_loop [5, 6] (fun n b => ∃ k : Nat, (k : Int) ≤ 47 + 1 ∧ b = .int .i64 k ∧ n = .int .i64 (cntD k)) (fun _ b => (47 + 1 - intOf b).toNat)
  case atStart => exact ⟨0, by omega, rfl, rfl⟩
  case round =>
    obtain ⟨k, hk, rfl, rfl⟩ := hrel
    have hd := cntD_bd k
    by_cases hlt : (k : Int) ≤ 47
    · by_cases h1 : (k : Int) < 48
      · have HS : Hid (cntD (k + 1) = cntD k) := cntD_no k (.inl h1)
        go_wp2_with (go_at_call 6; refine (digit_no _ (.inl (by omega)) _).mono ?_; rintro e w' ⟨rfl, rfl⟩)
        go_round
        case rel => exact ⟨k + 1, by omega, by go_num, by rw [HS.out]⟩
        case measure => simp [intOf]; omega
      · by_cases h2 : (k : Int) ≤ 57
        · have HS : Hid (cntD (k + 1) = cntD k + 1) := cntD_yes k (by omega) h2
          go_wp2_with (go_at_call 6; refine (digit_yes _ (by omega) (by omega) _).mono ?_; rintro e w' ⟨rfl, rfl⟩)
          go_round
          case rel => exact ⟨k + 1, by omega, by go_num, by rw [HS.out]⟩
          case measure => simp [intOf]; omega
        · have HS : Hid (cntD (k + 1) = cntD k) := cntD_no k (.inr (by omega))
          go_wp2_with (go_at_call 6; refine (digit_no _ (.inr (by omega)) _).mono ?_; rintro e w' ⟨rfl, rfl⟩)
          go_round
          case rel => exact ⟨k + 1, by omega, by go_num, by rw [HS.out]⟩
          case measure => simp [intOf]; omega
    · have hkk : (k : Int) = 47 + 1 := by omega
      have HC : Hid (cntD k = 0) := cnt_lo k (by omega)
      clear hkk
      rw [HC.out]
      go_wp2
      go_ret
      exact ⟨rfl, rfl⟩
theorem c4_7_100 (a0 : Int) (lo : 48 ≤ a0) (hi : a0 ≤ 57) (w : World) :
    Calls Try.prog 7 #[.int .u8 a0, .int .u8 100] w fun e w' => e = .returned (.bool true) ∧ w' = w := by
  have b1 := bits_d
  have d57 : decide (a0 ≤ 57) = true := by simp; omega
  have d90 : decide (a0 ≤ 90) = true := by simp; omega
  have d122 : decide (a0 ≤ 122) = true := by simp; omega
  have d126 : decide (a0 ≤ 126) = true := by simp; omega
  have n95 : (a0 == 95) = false := by simp; omega
  have n95b : (a0 != 95) = true := by simp; omega
  go_enter Try.func7, Try.ntmps7
  go_wp2
  go_ret
  exact ⟨rfl, rfl⟩
theorem c4_7_68 (a0 : Int) (lo : 48 ≤ a0) (hi : a0 ≤ 57) (w : World) :
    Calls Try.prog 7 #[.int .u8 a0, .int .u8 68] w fun e w' => e = .returned (.bool false) ∧ w' = w := by
  have b1 := bits_D
  have d57 : decide (a0 ≤ 57) = true := by simp; omega
  have d90 : decide (a0 ≤ 90) = true := by simp; omega
  have d122 : decide (a0 ≤ 122) = true := by simp; omega
  have d126 : decide (a0 ≤ 126) = true := by simp; omega
  have n95 : (a0 == 95) = false := by simp; omega
  have n95b : (a0 != 95) = true := by simp; omega
  go_enter Try.func7, Try.ntmps7
  go_wp2
  go_ret
  exact ⟨rfl, rfl⟩
theorem c4_7_97 (a0 : Int) (lo : 48 ≤ a0) (hi : a0 ≤ 57) (w : World) :
    Calls Try.prog 7 #[.int .u8 a0, .int .u8 97] w fun e w' => e = .returned (.bool false) ∧ w' = w := by
  have b1 := bits_a
  have d57 : decide (a0 ≤ 57) = true := by simp; omega
  have d90 : decide (a0 ≤ 90) = true := by simp; omega
  have d122 : decide (a0 ≤ 122) = true := by simp; omega
  have d126 : decide (a0 ≤ 126) = true := by simp; omega
  have n95 : (a0 == 95) = false := by simp; omega
  have n95b : (a0 != 95) = true := by simp; omega
  go_enter Try.func7, Try.ntmps7
  go_wp2
  go_ret
  exact ⟨rfl, rfl⟩
theorem c4_7_112 (a0 : Int) (lo : 48 ≤ a0) (hi : a0 ≤ 57) (w : World) :
    Calls Try.prog 7 #[.int .u8 a0, .int .u8 112] w fun e w' => e = .returned (.bool false) ∧ w' = w := by
  have b1 := bits_p
  have d57 : decide (a0 ≤ 57) = true := by simp; omega
  have d90 : decide (a0 ≤ 90) = true := by simp; omega
  have d122 : decide (a0 ≤ 122) = true := by simp; omega
  have d126 : decide (a0 ≤ 126) = true := by simp; omega
  have n95 : (a0 == 95) = false := by simp; omega
  have n95b : (a0 != 95) = true := by simp; omega
  go_enter Try.func7, Try.ntmps7
  go_wp2
  go_ret
  exact ⟨rfl, rfl⟩
theorem c4_8 (a0 : Int) (lo : 48 ≤ a0) (hi : a0 ≤ 57) (w : World) :
    Calls Try.prog 8 #[.int .u8 a0] w fun e w' => e = .returned (.bool true) ∧ w' = w := by
  have d57 : decide (a0 ≤ 57) = true := by simp; omega
  have d90 : decide (a0 ≤ 90) = true := by simp; omega
  have d122 : decide (a0 ≤ 122) = true := by simp; omega
  have d126 : decide (a0 ≤ 126) = true := by simp; omega
  have n95 : (a0 == 95) = false := by simp; omega
  have n95b : (a0 != 95) = true := by simp; omega
  go_enter Try.func8, Try.ntmps8
  go_wp2
  go_ret
  exact ⟨rfl, rfl⟩
theorem c4_9 (a0 : Int) (lo : 48 ≤ a0) (hi : a0 ≤ 57) (w : World) :
    Calls Try.prog 9 #[.int .u8 a0] w fun e w' => e = .returned (.bool false) ∧ w' = w := by
  have d57 : decide (a0 ≤ 57) = true := by simp; omega
  have d90 : decide (a0 ≤ 90) = true := by simp; omega
  have d122 : decide (a0 ≤ 122) = true := by simp; omega
  have d126 : decide (a0 ≤ 126) = true := by simp; omega
  have n95 : (a0 == 95) = false := by simp; omega
  have n95b : (a0 != 95) = true := by simp; omega
  go_enter Try.func9, Try.ntmps9
  go_wp2
  go_ret
  exact ⟨rfl, rfl⟩
set_option maxHeartbeats 1000000 in
theorem walk4 (a0 : Int) (lo : 48 ≤ a0) (hi : a0 ≤ 57) (w : World) :
    Calls Try.prog 3 #[.int .u8 a0] w fun e w' => e = .returned (.bool true) ∧ w' = w := by
  have d57 : decide (a0 ≤ 57) = true := by simp; omega
  have d90 : decide (a0 ≤ 90) = true := by simp; omega
  have d122 : decide (a0 ≤ 122) = true := by simp; omega
  have d126 : decide (a0 ≤ 126) = true := by simp; omega
  have n95 : (a0 == 95) = false := by simp; omega
  have n95b : (a0 != 95) = true := by simp; omega
  go_enter Try.func3, Try.ntmps3
  go_wp2_with (first | (go_at_call 6; refine (digit_yes _ (by omega) (by omega) _).mono ?_; rintro e w' ⟨rfl, rfl⟩) | (go_at_call_of 7 (Value.int .u8 100); refine (c4_7_100 _ (by omega) (by omega) _).mono ?_; rintro e w' ⟨rfl, rfl⟩) | (go_at_call_of 7 (Value.int .u8 68); refine (c4_7_68 _ (by omega) (by omega) _).mono ?_; rintro e w' ⟨rfl, rfl⟩) | (go_at_call_of 7 (Value.int .u8 97); refine (c4_7_97 _ (by omega) (by omega) _).mono ?_; rintro e w' ⟨rfl, rfl⟩) | (go_at_call_of 7 (Value.int .u8 112); refine (c4_7_112 _ (by omega) (by omega) _).mono ?_; rintro e w' ⟨rfl, rfl⟩) | (go_at_call 8; refine (c4_8 _ (by omega) (by omega) _).mono ?_; rintro e w' ⟨rfl, rfl⟩) | (go_at_call 9; refine (c4_9 _ (by omega) (by omega) _).mono ?_; rintro e w' ⟨rfl, rfl⟩))
  go_loop [5, 6] (fun n b => ∃ k : Nat, (k : Int) ≤ a0 + 1 ∧ b = .int .i64 k ∧ n = .int .i64 (cntD k)) (fun _ b => (a0 + 1 - intOf b).toNat)
  case atStart => exact ⟨0, by omega, rfl, rfl⟩
  case round =>
    obtain ⟨k, hk, rfl, rfl⟩ := hrel
    have hd := cntD_bd k
    by_cases hlt : (k : Int) ≤ a0
    · by_cases h1 : (k : Int) < 48
      · have HS : Hid (cntD (k + 1) = cntD k) := cntD_no k (.inl h1)
        go_wp2_with (go_at_call 6; refine (digit_no _ (.inl (by omega)) _).mono ?_; rintro e w' ⟨rfl, rfl⟩)
        go_round
        case rel => exact ⟨k + 1, by omega, by go_num, by rw [HS.out]⟩
        case measure => simp [intOf]; omega
      · by_cases h2 : (k : Int) ≤ 57
        · have HS : Hid (cntD (k + 1) = cntD k + 1) := cntD_yes k (by omega) h2
          go_wp2_with (go_at_call 6; refine (digit_yes _ (by omega) (by omega) _).mono ?_; rintro e w' ⟨rfl, rfl⟩)
          go_round
          case rel => exact ⟨k + 1, by omega, by go_num, by rw [HS.out]⟩
          case measure => simp [intOf]; omega
        · have HS : Hid (cntD (k + 1) = cntD k) := cntD_no k (.inr (by omega))
          go_wp2_with (go_at_call 6; refine (digit_no _ (.inr (by omega)) _).mono ?_; rintro e w' ⟨rfl, rfl⟩)
          go_round
          case rel => exact ⟨k + 1, by omega, by go_num, by rw [HS.out]⟩
          case measure => simp [intOf]; omega
    · have hkk : (k : Int) = a0 + 1 := by omega
      have HC : Hid (cntD k = a0 - 47) := cnt_mid k a0 (by omega) (by omega) (by omega)
      clear hkk
      rw [HC.out]
      go_wp2
      go_ret
      exact ⟨rfl, rfl⟩
theorem c5_7_100 (a0 : Int) (lo : 58 ≤ a0) (hi : a0 ≤ 64) (w : World) :
    Calls Try.prog 7 #[.int .u8 a0, .int .u8 100] w fun e w' => e = .returned (.bool false) ∧ w' = w := by
  have b1 := bits_d
  have d57 : decide (a0 ≤ 57) = false := by simp; omega
  have d90 : decide (a0 ≤ 90) = true := by simp; omega
  have d122 : decide (a0 ≤ 122) = true := by simp; omega
  have d126 : decide (a0 ≤ 126) = true := by simp; omega
  have n95 : (a0 == 95) = false := by simp; omega
  have n95b : (a0 != 95) = true := by simp; omega
  go_enter Try.func7, Try.ntmps7
  go_wp2
  go_ret
  exact ⟨rfl, rfl⟩
theorem c5_7_68 (a0 : Int) (lo : 58 ≤ a0) (hi : a0 ≤ 64) (w : World) :
    Calls Try.prog 7 #[.int .u8 a0, .int .u8 68] w fun e w' => e = .returned (.bool true) ∧ w' = w := by
  have b1 := bits_D
  have d57 : decide (a0 ≤ 57) = false := by simp; omega
  have d90 : decide (a0 ≤ 90) = true := by simp; omega
  have d122 : decide (a0 ≤ 122) = true := by simp; omega
  have d126 : decide (a0 ≤ 126) = true := by simp; omega
  have n95 : (a0 == 95) = false := by simp; omega
  have n95b : (a0 != 95) = true := by simp; omega
  go_enter Try.func7, Try.ntmps7
  go_wp2
  go_ret
  exact ⟨rfl, rfl⟩
theorem c5_7_97 (a0 : Int) (lo : 58 ≤ a0) (hi : a0 ≤ 64) (w : World) :
    Calls Try.prog 7 #[.int .u8 a0, .int .u8 97] w fun e w' => e = .returned (.bool false) ∧ w' = w := by
  have b1 := bits_a
  have d57 : decide (a0 ≤ 57) = false := by simp; omega
  have d90 : decide (a0 ≤ 90) = true := by simp; omega
  have d122 : decide (a0 ≤ 122) = true := by simp; omega
  have d126 : decide (a0 ≤ 126) = true := by simp; omega
  have n95 : (a0 == 95) = false := by simp; omega
  have n95b : (a0 != 95) = true := by simp; omega
  go_enter Try.func7, Try.ntmps7
  go_wp2
  go_ret
  exact ⟨rfl, rfl⟩
theorem c5_7_112 (a0 : Int) (lo : 58 ≤ a0) (hi : a0 ≤ 64) (w : World) :
    Calls Try.prog 7 #[.int .u8 a0, .int .u8 112] w fun e w' => e = .returned (.bool true) ∧ w' = w := by
  have b1 := bits_p
  have d57 : decide (a0 ≤ 57) = false := by simp; omega
  have d90 : decide (a0 ≤ 90) = true := by simp; omega
  have d122 : decide (a0 ≤ 122) = true := by simp; omega
  have d126 : decide (a0 ≤ 126) = true := by simp; omega
  have n95 : (a0 == 95) = false := by simp; omega
  have n95b : (a0 != 95) = true := by simp; omega
  go_enter Try.func7, Try.ntmps7
  go_wp2
  go_ret
  exact ⟨rfl, rfl⟩
theorem c5_8 (a0 : Int) (lo : 58 ≤ a0) (hi : a0 ≤ 64) (w : World) :
    Calls Try.prog 8 #[.int .u8 a0] w fun e w' => e = .returned (.bool false) ∧ w' = w := by
  have d57 : decide (a0 ≤ 57) = false := by simp; omega
  have d90 : decide (a0 ≤ 90) = true := by simp; omega
  have d122 : decide (a0 ≤ 122) = true := by simp; omega
  have d126 : decide (a0 ≤ 126) = true := by simp; omega
  have n95 : (a0 == 95) = false := by simp; omega
  have n95b : (a0 != 95) = true := by simp; omega
  go_enter Try.func8, Try.ntmps8
  go_wp2
  go_ret
  exact ⟨rfl, rfl⟩
theorem c5_9 (a0 : Int) (lo : 58 ≤ a0) (hi : a0 ≤ 64) (w : World) :
    Calls Try.prog 9 #[.int .u8 a0] w fun e w' => e = .returned (.bool false) ∧ w' = w := by
  have d57 : decide (a0 ≤ 57) = false := by simp; omega
  have d90 : decide (a0 ≤ 90) = true := by simp; omega
  have d122 : decide (a0 ≤ 122) = true := by simp; omega
  have d126 : decide (a0 ≤ 126) = true := by simp; omega
  have n95 : (a0 == 95) = false := by simp; omega
  have n95b : (a0 != 95) = true := by simp; omega
  go_enter Try.func9, Try.ntmps9
  go_wp2
  go_ret
  exact ⟨rfl, rfl⟩
set_option maxHeartbeats 1000000 in
theorem walk5 (a0 : Int) (lo : 58 ≤ a0) (hi : a0 ≤ 64) (w : World) :
    Calls Try.prog 3 #[.int .u8 a0] w fun e w' => e = .returned (.bool true) ∧ w' = w := by
  have d57 : decide (a0 ≤ 57) = false := by simp; omega
  have d90 : decide (a0 ≤ 90) = true := by simp; omega
  have d122 : decide (a0 ≤ 122) = true := by simp; omega
  have d126 : decide (a0 ≤ 126) = true := by simp; omega
  have n95 : (a0 == 95) = false := by simp; omega
  have n95b : (a0 != 95) = true := by simp; omega
  go_enter Try.func3, Try.ntmps3
  go_wp2_with (first | (go_at_call 6; refine (digit_no _ (.inr (by omega)) _).mono ?_; rintro e w' ⟨rfl, rfl⟩) | (go_at_call_of 7 (Value.int .u8 100); refine (c5_7_100 _ (by omega) (by omega) _).mono ?_; rintro e w' ⟨rfl, rfl⟩) | (go_at_call_of 7 (Value.int .u8 68); refine (c5_7_68 _ (by omega) (by omega) _).mono ?_; rintro e w' ⟨rfl, rfl⟩) | (go_at_call_of 7 (Value.int .u8 97); refine (c5_7_97 _ (by omega) (by omega) _).mono ?_; rintro e w' ⟨rfl, rfl⟩) | (go_at_call_of 7 (Value.int .u8 112); refine (c5_7_112 _ (by omega) (by omega) _).mono ?_; rintro e w' ⟨rfl, rfl⟩) | (go_at_call 8; refine (c5_8 _ (by omega) (by omega) _).mono ?_; rintro e w' ⟨rfl, rfl⟩) | (go_at_call 9; refine (c5_9 _ (by omega) (by omega) _).mono ?_; rintro e w' ⟨rfl, rfl⟩))
  go_loop [5, 6] (fun n b => ∃ k : Nat, (k : Int) ≤ a0 + 1 ∧ b = .int .i64 k ∧ n = .int .i64 (cntD k)) (fun _ b => (a0 + 1 - intOf b).toNat)
  case atStart => exact ⟨0, by omega, rfl, rfl⟩
  case round =>
    obtain ⟨k, hk, rfl, rfl⟩ := hrel
    have hd := cntD_bd k
    by_cases hlt : (k : Int) ≤ a0
    · by_cases h1 : (k : Int) < 48
      · have HS : Hid (cntD (k + 1) = cntD k) := cntD_no k (.inl h1)
        go_wp2_with (go_at_call 6; refine (digit_no _ (.inl (by omega)) _).mono ?_; rintro e w' ⟨rfl, rfl⟩)
        go_round
        case rel => exact ⟨k + 1, by omega, by go_num, by rw [HS.out]⟩
        case measure => simp [intOf]; omega
      · by_cases h2 : (k : Int) ≤ 57
        · have HS : Hid (cntD (k + 1) = cntD k + 1) := cntD_yes k (by omega) h2
          go_wp2_with (go_at_call 6; refine (digit_yes _ (by omega) (by omega) _).mono ?_; rintro e w' ⟨rfl, rfl⟩)
          go_round
          case rel => exact ⟨k + 1, by omega, by go_num, by rw [HS.out]⟩
          case measure => simp [intOf]; omega
        · have HS : Hid (cntD (k + 1) = cntD k) := cntD_no k (.inr (by omega))
          go_wp2_with (go_at_call 6; refine (digit_no _ (.inr (by omega)) _).mono ?_; rintro e w' ⟨rfl, rfl⟩)
          go_round
          case rel => exact ⟨k + 1, by omega, by go_num, by rw [HS.out]⟩
          case measure => simp [intOf]; omega
    · have hkk : (k : Int) = a0 + 1 := by omega
      have HC : Hid (cntD k = 10) := cnt_hi k (by omega)
      clear hkk
      rw [HC.out]
      go_wp2
      go_ret
      exact ⟨rfl, rfl⟩
theorem c6_7_100 (a0 : Int) (lo : 65 ≤ a0) (hi : a0 ≤ 90) (w : World) :
    Calls Try.prog 7 #[.int .u8 a0, .int .u8 100] w fun e w' => e = .returned (.bool false) ∧ w' = w := by
  have b1 := bits_d
  have d57 : decide (a0 ≤ 57) = false := by simp; omega
  have d90 : decide (a0 ≤ 90) = true := by simp; omega
  have d122 : decide (a0 ≤ 122) = true := by simp; omega
  have d126 : decide (a0 ≤ 126) = true := by simp; omega
  have n95 : (a0 == 95) = false := by simp; omega
  have n95b : (a0 != 95) = true := by simp; omega
  go_enter Try.func7, Try.ntmps7
  go_wp2
  go_ret
  exact ⟨rfl, rfl⟩
theorem c6_7_68 (a0 : Int) (lo : 65 ≤ a0) (hi : a0 ≤ 90) (w : World) :
    Calls Try.prog 7 #[.int .u8 a0, .int .u8 68] w fun e w' => e = .returned (.bool true) ∧ w' = w := by
  have b1 := bits_D
  have d57 : decide (a0 ≤ 57) = false := by simp; omega
  have d90 : decide (a0 ≤ 90) = true := by simp; omega
  have d122 : decide (a0 ≤ 122) = true := by simp; omega
  have d126 : decide (a0 ≤ 126) = true := by simp; omega
  have n95 : (a0 == 95) = false := by simp; omega
  have n95b : (a0 != 95) = true := by simp; omega
  go_enter Try.func7, Try.ntmps7
  go_wp2
  go_ret
  exact ⟨rfl, rfl⟩
theorem c6_7_97 (a0 : Int) (lo : 65 ≤ a0) (hi : a0 ≤ 90) (w : World) :
    Calls Try.prog 7 #[.int .u8 a0, .int .u8 97] w fun e w' => e = .returned (.bool true) ∧ w' = w := by
  have b1 := bits_a
  have d57 : decide (a0 ≤ 57) = false := by simp; omega
  have d90 : decide (a0 ≤ 90) = true := by simp; omega
  have d122 : decide (a0 ≤ 122) = true := by simp; omega
  have d126 : decide (a0 ≤ 126) = true := by simp; omega
  have n95 : (a0 == 95) = false := by simp; omega
  have n95b : (a0 != 95) = true := by simp; omega
  go_enter Try.func7, Try.ntmps7
  go_wp2
  go_ret
  exact ⟨rfl, rfl⟩
theorem c6_7_112 (a0 : Int) (lo : 65 ≤ a0) (hi : a0 ≤ 90) (w : World) :
    Calls Try.prog 7 #[.int .u8 a0, .int .u8 112] w fun e w' => e = .returned (.bool false) ∧ w' = w := by
  have b1 := bits_p
  have d57 : decide (a0 ≤ 57) = false := by simp; omega
  have d90 : decide (a0 ≤ 90) = true := by simp; omega
  have d122 : decide (a0 ≤ 122) = true := by simp; omega
  have d126 : decide (a0 ≤ 126) = true := by simp; omega
  have n95 : (a0 == 95) = false := by simp; omega
  have n95b : (a0 != 95) = true := by simp; omega
  go_enter Try.func7, Try.ntmps7
  go_wp2
  go_ret
  exact ⟨rfl, rfl⟩
theorem c6_8 (a0 : Int) (lo : 65 ≤ a0) (hi : a0 ≤ 90) (w : World) :
    Calls Try.prog 8 #[.int .u8 a0] w fun e w' => e = .returned (.bool true) ∧ w' = w := by
  have d57 : decide (a0 ≤ 57) = false := by simp; omega
  have d90 : decide (a0 ≤ 90) = true := by simp; omega
  have d122 : decide (a0 ≤ 122) = true := by simp; omega
  have d126 : decide (a0 ≤ 126) = true := by simp; omega
  have n95 : (a0 == 95) = false := by simp; omega
  have n95b : (a0 != 95) = true := by simp; omega
  go_enter Try.func8, Try.ntmps8
  go_wp2
  go_ret
  exact ⟨rfl, rfl⟩
theorem c6_9 (a0 : Int) (lo : 65 ≤ a0) (hi : a0 ≤ 90) (w : World) :
    Calls Try.prog 9 #[.int .u8 a0] w fun e w' => e = .returned (.bool true) ∧ w' = w := by
  have d57 : decide (a0 ≤ 57) = false := by simp; omega
  have d90 : decide (a0 ≤ 90) = true := by simp; omega
  have d122 : decide (a0 ≤ 122) = true := by simp; omega
  have d126 : decide (a0 ≤ 126) = true := by simp; omega
  have n95 : (a0 == 95) = false := by simp; omega
  have n95b : (a0 != 95) = true := by simp; omega
  go_enter Try.func9, Try.ntmps9
  go_wp2
  go_ret
  exact ⟨rfl, rfl⟩
set_option maxHeartbeats 1000000 in
theorem walk6 (a0 : Int) (lo : 65 ≤ a0) (hi : a0 ≤ 90) (w : World) :
    Calls Try.prog 3 #[.int .u8 a0] w fun e w' => e = .returned (.bool true) ∧ w' = w := by
  have d57 : decide (a0 ≤ 57) = false := by simp; omega
  have d90 : decide (a0 ≤ 90) = true := by simp; omega
  have d122 : decide (a0 ≤ 122) = true := by simp; omega
  have d126 : decide (a0 ≤ 126) = true := by simp; omega
  have n95 : (a0 == 95) = false := by simp; omega
  have n95b : (a0 != 95) = true := by simp; omega
  go_enter Try.func3, Try.ntmps3
  go_wp2_with (first | (go_at_call 6; refine (digit_no _ (.inr (by omega)) _).mono ?_; rintro e w' ⟨rfl, rfl⟩) | (go_at_call_of 7 (Value.int .u8 100); refine (c6_7_100 _ (by omega) (by omega) _).mono ?_; rintro e w' ⟨rfl, rfl⟩) | (go_at_call_of 7 (Value.int .u8 68); refine (c6_7_68 _ (by omega) (by omega) _).mono ?_; rintro e w' ⟨rfl, rfl⟩) | (go_at_call_of 7 (Value.int .u8 97); refine (c6_7_97 _ (by omega) (by omega) _).mono ?_; rintro e w' ⟨rfl, rfl⟩) | (go_at_call_of 7 (Value.int .u8 112); refine (c6_7_112 _ (by omega) (by omega) _).mono ?_; rintro e w' ⟨rfl, rfl⟩) | (go_at_call 8; refine (c6_8 _ (by omega) (by omega) _).mono ?_; rintro e w' ⟨rfl, rfl⟩) | (go_at_call 9; refine (c6_9 _ (by omega) (by omega) _).mono ?_; rintro e w' ⟨rfl, rfl⟩))
  go_loop [5, 6] (fun n b => ∃ k : Nat, (k : Int) ≤ a0 + 1 ∧ b = .int .i64 k ∧ n = .int .i64 (cntD k)) (fun _ b => (a0 + 1 - intOf b).toNat)
  case atStart => exact ⟨0, by omega, rfl, rfl⟩
  case round =>
    obtain ⟨k, hk, rfl, rfl⟩ := hrel
    have hd := cntD_bd k
    by_cases hlt : (k : Int) ≤ a0
    · by_cases h1 : (k : Int) < 48
      · have HS : Hid (cntD (k + 1) = cntD k) := cntD_no k (.inl h1)
        go_wp2_with (go_at_call 6; refine (digit_no _ (.inl (by omega)) _).mono ?_; rintro e w' ⟨rfl, rfl⟩)
        go_round
        case rel => exact ⟨k + 1, by omega, by go_num, by rw [HS.out]⟩
        case measure => simp [intOf]; omega
      · by_cases h2 : (k : Int) ≤ 57
        · have HS : Hid (cntD (k + 1) = cntD k + 1) := cntD_yes k (by omega) h2
          go_wp2_with (go_at_call 6; refine (digit_yes _ (by omega) (by omega) _).mono ?_; rintro e w' ⟨rfl, rfl⟩)
          go_round
          case rel => exact ⟨k + 1, by omega, by go_num, by rw [HS.out]⟩
          case measure => simp [intOf]; omega
        · have HS : Hid (cntD (k + 1) = cntD k) := cntD_no k (.inr (by omega))
          go_wp2_with (go_at_call 6; refine (digit_no _ (.inr (by omega)) _).mono ?_; rintro e w' ⟨rfl, rfl⟩)
          go_round
          case rel => exact ⟨k + 1, by omega, by go_num, by rw [HS.out]⟩
          case measure => simp [intOf]; omega
    · have hkk : (k : Int) = a0 + 1 := by omega
      have HC : Hid (cntD k = 10) := cnt_hi k (by omega)
      clear hkk
      rw [HC.out]
      go_wp2
      go_ret
      exact ⟨rfl, rfl⟩
theorem c7_7_100 (a0 : Int) (lo : 91 ≤ a0) (hi : a0 ≤ 94) (w : World) :
    Calls Try.prog 7 #[.int .u8 a0, .int .u8 100] w fun e w' => e = .returned (.bool false) ∧ w' = w := by
  have b1 := bits_d
  have d57 : decide (a0 ≤ 57) = false := by simp; omega
  have d90 : decide (a0 ≤ 90) = false := by simp; omega
  have d122 : decide (a0 ≤ 122) = true := by simp; omega
  have d126 : decide (a0 ≤ 126) = true := by simp; omega
  have n95 : (a0 == 95) = false := by simp; omega
  have n95b : (a0 != 95) = true := by simp; omega
  go_enter Try.func7, Try.ntmps7
  go_wp2
  go_ret
  exact ⟨rfl, rfl⟩
theorem c7_7_68 (a0 : Int) (lo : 91 ≤ a0) (hi : a0 ≤ 94) (w : World) :
    Calls Try.prog 7 #[.int .u8 a0, .int .u8 68] w fun e w' => e = .returned (.bool true) ∧ w' = w := by
  have b1 := bits_D
  have d57 : decide (a0 ≤ 57) = false := by simp; omega
  have d90 : decide (a0 ≤ 90) = false := by simp; omega
  have d122 : decide (a0 ≤ 122) = true := by simp; omega
  have d126 : decide (a0 ≤ 126) = true := by simp; omega
  have n95 : (a0 == 95) = false := by simp; omega
  have n95b : (a0 != 95) = true := by simp; omega
  go_enter Try.func7, Try.ntmps7
  go_wp2
  go_ret
  exact ⟨rfl, rfl⟩
theorem c7_7_97 (a0 : Int) (lo : 91 ≤ a0) (hi : a0 ≤ 94) (w : World) :
    Calls Try.prog 7 #[.int .u8 a0, .int .u8 97] w fun e w' => e = .returned (.bool false) ∧ w' = w := by
  have b1 := bits_a
  have d57 : decide (a0 ≤ 57) = false := by simp; omega
  have d90 : decide (a0 ≤ 90) = false := by simp; omega
  have d122 : decide (a0 ≤ 122) = true := by simp; omega
  have d126 : decide (a0 ≤ 126) = true := by simp; omega
  have n95 : (a0 == 95) = false := by simp; omega
  have n95b : (a0 != 95) = true := by simp; omega
  go_enter Try.func7, Try.ntmps7
  go_wp2
  go_ret
  exact ⟨rfl, rfl⟩
theorem c7_7_112 (a0 : Int) (lo : 91 ≤ a0) (hi : a0 ≤ 94) (w : World) :
    Calls Try.prog 7 #[.int .u8 a0, .int .u8 112] w fun e w' => e = .returned (.bool true) ∧ w' = w := by
  have b1 := bits_p
  have d57 : decide (a0 ≤ 57) = false := by simp; omega
  have d90 : decide (a0 ≤ 90) = false := by simp; omega
  have d122 : decide (a0 ≤ 122) = true := by simp; omega
  have d126 : decide (a0 ≤ 126) = true := by simp; omega
  have n95 : (a0 == 95) = false := by simp; omega
  have n95b : (a0 != 95) = true := by simp; omega
  go_enter Try.func7, Try.ntmps7
  go_wp2
  go_ret
  exact ⟨rfl, rfl⟩
theorem c7_8 (a0 : Int) (lo : 91 ≤ a0) (hi : a0 ≤ 94) (w : World) :
    Calls Try.prog 8 #[.int .u8 a0] w fun e w' => e = .returned (.bool false) ∧ w' = w := by
  have d57 : decide (a0 ≤ 57) = false := by simp; omega
  have d90 : decide (a0 ≤ 90) = false := by simp; omega
  have d122 : decide (a0 ≤ 122) = true := by simp; omega
  have d126 : decide (a0 ≤ 126) = true := by simp; omega
  have n95 : (a0 == 95) = false := by simp; omega
  have n95b : (a0 != 95) = true := by simp; omega
  go_enter Try.func8, Try.ntmps8
  go_wp2
  go_ret
  exact ⟨rfl, rfl⟩
theorem c7_9 (a0 : Int) (lo : 91 ≤ a0) (hi : a0 ≤ 94) (w : World) :
    Calls Try.prog 9 #[.int .u8 a0] w fun e w' => e = .returned (.bool false) ∧ w' = w := by
  have d57 : decide (a0 ≤ 57) = false := by simp; omega
  have d90 : decide (a0 ≤ 90) = false := by simp; omega
  have d122 : decide (a0 ≤ 122) = true := by simp; omega
  have d126 : decide (a0 ≤ 126) = true := by simp; omega
  have n95 : (a0 == 95) = false := by simp; omega
  have n95b : (a0 != 95) = true := by simp; omega
  go_enter Try.func9, Try.ntmps9
  go_wp2
  go_ret
  exact ⟨rfl, rfl⟩
set_option maxHeartbeats 1000000 in
theorem walk7 (a0 : Int) (lo : 91 ≤ a0) (hi : a0 ≤ 94) (w : World) :
    Calls Try.prog 3 #[.int .u8 a0] w fun e w' => e = .returned (.bool true) ∧ w' = w := by
  have d57 : decide (a0 ≤ 57) = false := by simp; omega
  have d90 : decide (a0 ≤ 90) = false := by simp; omega
  have d122 : decide (a0 ≤ 122) = true := by simp; omega
  have d126 : decide (a0 ≤ 126) = true := by simp; omega
  have n95 : (a0 == 95) = false := by simp; omega
  have n95b : (a0 != 95) = true := by simp; omega
  go_enter Try.func3, Try.ntmps3
  go_wp2_with (first | (go_at_call 6; refine (digit_no _ (.inr (by omega)) _).mono ?_; rintro e w' ⟨rfl, rfl⟩) | (go_at_call_of 7 (Value.int .u8 100); refine (c7_7_100 _ (by omega) (by omega) _).mono ?_; rintro e w' ⟨rfl, rfl⟩) | (go_at_call_of 7 (Value.int .u8 68); refine (c7_7_68 _ (by omega) (by omega) _).mono ?_; rintro e w' ⟨rfl, rfl⟩) | (go_at_call_of 7 (Value.int .u8 97); refine (c7_7_97 _ (by omega) (by omega) _).mono ?_; rintro e w' ⟨rfl, rfl⟩) | (go_at_call_of 7 (Value.int .u8 112); refine (c7_7_112 _ (by omega) (by omega) _).mono ?_; rintro e w' ⟨rfl, rfl⟩) | (go_at_call 8; refine (c7_8 _ (by omega) (by omega) _).mono ?_; rintro e w' ⟨rfl, rfl⟩) | (go_at_call 9; refine (c7_9 _ (by omega) (by omega) _).mono ?_; rintro e w' ⟨rfl, rfl⟩))
  go_loop [5, 6] (fun n b => ∃ k : Nat, (k : Int) ≤ a0 + 1 ∧ b = .int .i64 k ∧ n = .int .i64 (cntD k)) (fun _ b => (a0 + 1 - intOf b).toNat)
  case atStart => exact ⟨0, by omega, rfl, rfl⟩
  case round =>
    obtain ⟨k, hk, rfl, rfl⟩ := hrel
    have hd := cntD_bd k
    by_cases hlt : (k : Int) ≤ a0
    · by_cases h1 : (k : Int) < 48
      · have HS : Hid (cntD (k + 1) = cntD k) := cntD_no k (.inl h1)
        go_wp2_with (go_at_call 6; refine (digit_no _ (.inl (by omega)) _).mono ?_; rintro e w' ⟨rfl, rfl⟩)
        go_round
        case rel => exact ⟨k + 1, by omega, by go_num, by rw [HS.out]⟩
        case measure => simp [intOf]; omega
      · by_cases h2 : (k : Int) ≤ 57
        · have HS : Hid (cntD (k + 1) = cntD k + 1) := cntD_yes k (by omega) h2
          go_wp2_with (go_at_call 6; refine (digit_yes _ (by omega) (by omega) _).mono ?_; rintro e w' ⟨rfl, rfl⟩)
          go_round
          case rel => exact ⟨k + 1, by omega, by go_num, by rw [HS.out]⟩
          case measure => simp [intOf]; omega
        · have HS : Hid (cntD (k + 1) = cntD k) := cntD_no k (.inr (by omega))
          go_wp2_with (go_at_call 6; refine (digit_no _ (.inr (by omega)) _).mono ?_; rintro e w' ⟨rfl, rfl⟩)
          go_round
          case rel => exact ⟨k + 1, by omega, by go_num, by rw [HS.out]⟩
          case measure => simp [intOf]; omega
    · have hkk : (k : Int) = a0 + 1 := by omega
      have HC : Hid (cntD k = 10) := cnt_hi k (by omega)
      clear hkk
      rw [HC.out]
      go_wp2
      go_ret
      exact ⟨rfl, rfl⟩
theorem c8_7_100 (a0 : Int) (lo : 95 ≤ a0) (hi : a0 ≤ 95) (w : World) :
    Calls Try.prog 7 #[.int .u8 a0, .int .u8 100] w fun e w' => e = .returned (.bool false) ∧ w' = w := by
  have b1 := bits_d
  obtain rfl : a0 = 95 := by omega
  clear lo hi
  go_enter Try.func7, Try.ntmps7
  go_wp2
  go_ret
  exact ⟨rfl, rfl⟩
theorem c8_7_68 (a0 : Int) (lo : 95 ≤ a0) (hi : a0 ≤ 95) (w : World) :
    Calls Try.prog 7 #[.int .u8 a0, .int .u8 68] w fun e w' => e = .returned (.bool true) ∧ w' = w := by
  have b1 := bits_D
  obtain rfl : a0 = 95 := by omega
  clear lo hi
  go_enter Try.func7, Try.ntmps7
  go_wp2
  go_ret
  exact ⟨rfl, rfl⟩
theorem c8_7_97 (a0 : Int) (lo : 95 ≤ a0) (hi : a0 ≤ 95) (w : World) :
    Calls Try.prog 7 #[.int .u8 a0, .int .u8 97] w fun e w' => e = .returned (.bool false) ∧ w' = w := by
  have b1 := bits_a
  obtain rfl : a0 = 95 := by omega
  clear lo hi
  go_enter Try.func7, Try.ntmps7
  go_wp2
  go_ret
  exact ⟨rfl, rfl⟩
theorem c8_7_112 (a0 : Int) (lo : 95 ≤ a0) (hi : a0 ≤ 95) (w : World) :
    Calls Try.prog 7 #[.int .u8 a0, .int .u8 112] w fun e w' => e = .returned (.bool true) ∧ w' = w := by
  have b1 := bits_p
  obtain rfl : a0 = 95 := by omega
  clear lo hi
  go_enter Try.func7, Try.ntmps7
  go_wp2
  go_ret
  exact ⟨rfl, rfl⟩
theorem c8_8 (a0 : Int) (lo : 95 ≤ a0) (hi : a0 ≤ 95) (w : World) :
    Calls Try.prog 8 #[.int .u8 a0] w fun e w' => e = .returned (.bool false) ∧ w' = w := by
  obtain rfl : a0 = 95 := by omega
  clear lo hi
  go_enter Try.func8, Try.ntmps8
  go_wp2
  go_ret
  exact ⟨rfl, rfl⟩
theorem c8_9 (a0 : Int) (lo : 95 ≤ a0) (hi : a0 ≤ 95) (w : World) :
    Calls Try.prog 9 #[.int .u8 a0] w fun e w' => e = .returned (.bool true) ∧ w' = w := by
  obtain rfl : a0 = 95 := by omega
  clear lo hi
  go_enter Try.func9, Try.ntmps9
  go_wp2
  go_ret
  exact ⟨rfl, rfl⟩
set_option maxHeartbeats 1000000 in
theorem walk8 (a0 : Int) (lo : 95 ≤ a0) (hi : a0 ≤ 95) (w : World) :
    Calls Try.prog 3 #[.int .u8 a0] w fun e w' => e = .returned (.bool true) ∧ w' = w := by
  obtain rfl : a0 = 95 := by omega
  clear lo hi
  go_enter Try.func3, Try.ntmps3
  go_wp2_with (first | (go_at_call 6; refine (digit_no _ (.inr (by omega)) _).mono ?_; rintro e w' ⟨rfl, rfl⟩) | (go_at_call_of 7 (Value.int .u8 100); refine (c8_7_100 _ (by omega) (by omega) _).mono ?_; rintro e w' ⟨rfl, rfl⟩) | (go_at_call_of 7 (Value.int .u8 68); refine (c8_7_68 _ (by omega) (by omega) _).mono ?_; rintro e w' ⟨rfl, rfl⟩) | (go_at_call_of 7 (Value.int .u8 97); refine (c8_7_97 _ (by omega) (by omega) _).mono ?_; rintro e w' ⟨rfl, rfl⟩) | (go_at_call_of 7 (Value.int .u8 112); refine (c8_7_112 _ (by omega) (by omega) _).mono ?_; rintro e w' ⟨rfl, rfl⟩) | (go_at_call 8; refine (c8_8 _ (by omega) (by omega) _).mono ?_; rintro e w' ⟨rfl, rfl⟩) | (go_at_call 9; refine (c8_9 _ (by omega) (by omega) _).mono ?_; rintro e w' ⟨rfl, rfl⟩))
  go_loop [5, 6] (fun n b => ∃ k : Nat, (k : Int) ≤ 95 + 1 ∧ b = .int .i64 k ∧ n = .int .i64 (cntD k)) (fun _ b => (95 + 1 - intOf b).toNat)
  case atStart => exact ⟨0, by omega, rfl, rfl⟩
  case round =>
    obtain ⟨k, hk, rfl, rfl⟩ := hrel
    have hd := cntD_bd k
    by_cases hlt : (k : Int) ≤ 95
    · by_cases h1 : (k : Int) < 48
      · have HS : Hid (cntD (k + 1) = cntD k) := cntD_no k (.inl h1)
        go_wp2_with (go_at_call 6; refine (digit_no _ (.inl (by omega)) _).mono ?_; rintro e w' ⟨rfl, rfl⟩)
        go_round
        case rel => exact ⟨k + 1, by omega, by go_num, by rw [HS.out]⟩
        case measure => simp [intOf]; omega
      · by_cases h2 : (k : Int) ≤ 57
        · have HS : Hid (cntD (k + 1) = cntD k + 1) := cntD_yes k (by omega) h2
          go_wp2_with (go_at_call 6; refine (digit_yes _ (by omega) (by omega) _).mono ?_; rintro e w' ⟨rfl, rfl⟩)
          go_round
          case rel => exact ⟨k + 1, by omega, by go_num, by rw [HS.out]⟩
          case measure => simp [intOf]; omega
        · have HS : Hid (cntD (k + 1) = cntD k) := cntD_no k (.inr (by omega))
          go_wp2_with (go_at_call 6; refine (digit_no _ (.inr (by omega)) _).mono ?_; rintro e w' ⟨rfl, rfl⟩)
          go_round
          case rel => exact ⟨k + 1, by omega, by go_num, by rw [HS.out]⟩
          case measure => simp [intOf]; omega
    · have hkk : (k : Int) = 95 + 1 := by omega
      have HC : Hid (cntD k = 10) := cnt_hi k (by omega)
      clear hkk
      rw [HC.out]
      go_wp2
      go_ret
      exact ⟨rfl, rfl⟩
theorem c9_7_100 (a0 : Int) (lo : 96 ≤ a0) (hi : a0 ≤ 96) (w : World) :
    Calls Try.prog 7 #[.int .u8 a0, .int .u8 100] w fun e w' => e = .returned (.bool false) ∧ w' = w := by
  have b1 := bits_d
  obtain rfl : a0 = 96 := by omega
  clear lo hi
  go_enter Try.func7, Try.ntmps7
  go_wp2
  go_ret
  exact ⟨rfl, rfl⟩
theorem c9_7_68 (a0 : Int) (lo : 96 ≤ a0) (hi : a0 ≤ 96) (w : World) :
    Calls Try.prog 7 #[.int .u8 a0, .int .u8 68] w fun e w' => e = .returned (.bool true) ∧ w' = w := by
  have b1 := bits_D
  obtain rfl : a0 = 96 := by omega
  clear lo hi
  go_enter Try.func7, Try.ntmps7
  go_wp2
  go_ret
  exact ⟨rfl, rfl⟩
theorem c9_7_97 (a0 : Int) (lo : 96 ≤ a0) (hi : a0 ≤ 96) (w : World) :
    Calls Try.prog 7 #[.int .u8 a0, .int .u8 97] w fun e w' => e = .returned (.bool false) ∧ w' = w := by
  have b1 := bits_a
  obtain rfl : a0 = 96 := by omega
  clear lo hi
  go_enter Try.func7, Try.ntmps7
  go_wp2
  go_ret
  exact ⟨rfl, rfl⟩
theorem c9_7_112 (a0 : Int) (lo : 96 ≤ a0) (hi : a0 ≤ 96) (w : World) :
    Calls Try.prog 7 #[.int .u8 a0, .int .u8 112] w fun e w' => e = .returned (.bool true) ∧ w' = w := by
  have b1 := bits_p
  obtain rfl : a0 = 96 := by omega
  clear lo hi
  go_enter Try.func7, Try.ntmps7
  go_wp2
  go_ret
  exact ⟨rfl, rfl⟩
theorem c9_8 (a0 : Int) (lo : 96 ≤ a0) (hi : a0 ≤ 96) (w : World) :
    Calls Try.prog 8 #[.int .u8 a0] w fun e w' => e = .returned (.bool false) ∧ w' = w := by
  obtain rfl : a0 = 96 := by omega
  clear lo hi
  go_enter Try.func8, Try.ntmps8
  go_wp2
  go_ret
  exact ⟨rfl, rfl⟩
theorem c9_9 (a0 : Int) (lo : 96 ≤ a0) (hi : a0 ≤ 96) (w : World) :
    Calls Try.prog 9 #[.int .u8 a0] w fun e w' => e = .returned (.bool false) ∧ w' = w := by
  obtain rfl : a0 = 96 := by omega
  clear lo hi
  go_enter Try.func9, Try.ntmps9
  go_wp2
  go_ret
  exact ⟨rfl, rfl⟩
set_option maxHeartbeats 1000000 in
theorem walk9 (a0 : Int) (lo : 96 ≤ a0) (hi : a0 ≤ 96) (w : World) :
    Calls Try.prog 3 #[.int .u8 a0] w fun e w' => e = .returned (.bool true) ∧ w' = w := by
  obtain rfl : a0 = 96 := by omega
  clear lo hi
  go_enter Try.func3, Try.ntmps3
  go_wp2_with (first | (go_at_call 6; refine (digit_no _ (.inr (by omega)) _).mono ?_; rintro e w' ⟨rfl, rfl⟩) | (go_at_call_of 7 (Value.int .u8 100); refine (c9_7_100 _ (by omega) (by omega) _).mono ?_; rintro e w' ⟨rfl, rfl⟩) | (go_at_call_of 7 (Value.int .u8 68); refine (c9_7_68 _ (by omega) (by omega) _).mono ?_; rintro e w' ⟨rfl, rfl⟩) | (go_at_call_of 7 (Value.int .u8 97); refine (c9_7_97 _ (by omega) (by omega) _).mono ?_; rintro e w' ⟨rfl, rfl⟩) | (go_at_call_of 7 (Value.int .u8 112); refine (c9_7_112 _ (by omega) (by omega) _).mono ?_; rintro e w' ⟨rfl, rfl⟩) | (go_at_call 8; refine (c9_8 _ (by omega) (by omega) _).mono ?_; rintro e w' ⟨rfl, rfl⟩) | (go_at_call 9; refine (c9_9 _ (by omega) (by omega) _).mono ?_; rintro e w' ⟨rfl, rfl⟩))
  go_loop [5, 6] (fun n b => ∃ k : Nat, (k : Int) ≤ 96 + 1 ∧ b = .int .i64 k ∧ n = .int .i64 (cntD k)) (fun _ b => (96 + 1 - intOf b).toNat)
  case atStart => exact ⟨0, by omega, rfl, rfl⟩
  case round =>
    obtain ⟨k, hk, rfl, rfl⟩ := hrel
    have hd := cntD_bd k
    by_cases hlt : (k : Int) ≤ 96
    · by_cases h1 : (k : Int) < 48
      · have HS : Hid (cntD (k + 1) = cntD k) := cntD_no k (.inl h1)
        go_wp2_with (go_at_call 6; refine (digit_no _ (.inl (by omega)) _).mono ?_; rintro e w' ⟨rfl, rfl⟩)
        go_round
        case rel => exact ⟨k + 1, by omega, by go_num, by rw [HS.out]⟩
        case measure => simp [intOf]; omega
      · by_cases h2 : (k : Int) ≤ 57
        · have HS : Hid (cntD (k + 1) = cntD k + 1) := cntD_yes k (by omega) h2
          go_wp2_with (go_at_call 6; refine (digit_yes _ (by omega) (by omega) _).mono ?_; rintro e w' ⟨rfl, rfl⟩)
          go_round
          case rel => exact ⟨k + 1, by omega, by go_num, by rw [HS.out]⟩
          case measure => simp [intOf]; omega
        · have HS : Hid (cntD (k + 1) = cntD k) := cntD_no k (.inr (by omega))
          go_wp2_with (go_at_call 6; refine (digit_no _ (.inr (by omega)) _).mono ?_; rintro e w' ⟨rfl, rfl⟩)
          go_round
          case rel => exact ⟨k + 1, by omega, by go_num, by rw [HS.out]⟩
          case measure => simp [intOf]; omega
    · have hkk : (k : Int) = 96 + 1 := by omega
      have HC : Hid (cntD k = 10) := cnt_hi k (by omega)
      clear hkk
      rw [HC.out]
      go_wp2
      go_ret
      exact ⟨rfl, rfl⟩
theorem c10_7_100 (a0 : Int) (lo : 97 ≤ a0) (hi : a0 ≤ 122) (w : World) :
    Calls Try.prog 7 #[.int .u8 a0, .int .u8 100] w fun e w' => e = .returned (.bool false) ∧ w' = w := by
  have b1 := bits_d
  have d57 : decide (a0 ≤ 57) = false := by simp; omega
  have d90 : decide (a0 ≤ 90) = false := by simp; omega
  have d122 : decide (a0 ≤ 122) = true := by simp; omega
  have d126 : decide (a0 ≤ 126) = true := by simp; omega
  have n95 : (a0 == 95) = false := by simp; omega
  have n95b : (a0 != 95) = true := by simp; omega
  go_enter Try.func7, Try.ntmps7
  go_wp2
  go_ret
  exact ⟨rfl, rfl⟩
theorem c10_7_68 (a0 : Int) (lo : 97 ≤ a0) (hi : a0 ≤ 122) (w : World) :
    Calls Try.prog 7 #[.int .u8 a0, .int .u8 68] w fun e w' => e = .returned (.bool true) ∧ w' = w := by
  have b1 := bits_D
  have d57 : decide (a0 ≤ 57) = false := by simp; omega
  have d90 : decide (a0 ≤ 90) = false := by simp; omega
  have d122 : decide (a0 ≤ 122) = true := by simp; omega
  have d126 : decide (a0 ≤ 126) = true := by simp; omega
  have n95 : (a0 == 95) = false := by simp; omega
  have n95b : (a0 != 95) = true := by simp; omega
  go_enter Try.func7, Try.ntmps7
  go_wp2
  go_ret
  exact ⟨rfl, rfl⟩
theorem c10_7_97 (a0 : Int) (lo : 97 ≤ a0) (hi : a0 ≤ 122) (w : World) :
    Calls Try.prog 7 #[.int .u8 a0, .int .u8 97] w fun e w' => e = .returned (.bool true) ∧ w' = w := by
  have b1 := bits_a
  have d57 : decide (a0 ≤ 57) = false := by simp; omega
  have d90 : decide (a0 ≤ 90) = false := by simp; omega
  have d122 : decide (a0 ≤ 122) = true := by simp; omega
  have d126 : decide (a0 ≤ 126) = true := by simp; omega
  have n95 : (a0 == 95) = false := by simp; omega
  have n95b : (a0 != 95) = true := by simp; omega
  go_enter Try.func7, Try.ntmps7
  go_wp2
  go_ret
  exact ⟨rfl, rfl⟩
theorem c10_7_112 (a0 : Int) (lo : 97 ≤ a0) (hi : a0 ≤ 122) (w : World) :
    Calls Try.prog 7 #[.int .u8 a0, .int .u8 112] w fun e w' => e = .returned (.bool false) ∧ w' = w := by
  have b1 := bits_p
  have d57 : decide (a0 ≤ 57) = false := by simp; omega
  have d90 : decide (a0 ≤ 90) = false := by simp; omega
  have d122 : decide (a0 ≤ 122) = true := by simp; omega
  have d126 : decide (a0 ≤ 126) = true := by simp; omega
  have n95 : (a0 == 95) = false := by simp; omega
  have n95b : (a0 != 95) = true := by simp; omega
  go_enter Try.func7, Try.ntmps7
  go_wp2
  go_ret
  exact ⟨rfl, rfl⟩
theorem c10_8 (a0 : Int) (lo : 97 ≤ a0) (hi : a0 ≤ 122) (w : World) :
    Calls Try.prog 8 #[.int .u8 a0] w fun e w' => e = .returned (.bool true) ∧ w' = w := by
  have d57 : decide (a0 ≤ 57) = false := by simp; omega
  have d90 : decide (a0 ≤ 90) = false := by simp; omega
  have d122 : decide (a0 ≤ 122) = true := by simp; omega
  have d126 : decide (a0 ≤ 126) = true := by simp; omega
  have n95 : (a0 == 95) = false := by simp; omega
  have n95b : (a0 != 95) = true := by simp; omega
  go_enter Try.func8, Try.ntmps8
  go_wp2
  go_ret
  exact ⟨rfl, rfl⟩
theorem c10_9 (a0 : Int) (lo : 97 ≤ a0) (hi : a0 ≤ 122) (w : World) :
    Calls Try.prog 9 #[.int .u8 a0] w fun e w' => e = .returned (.bool true) ∧ w' = w := by
  have d57 : decide (a0 ≤ 57) = false := by simp; omega
  have d90 : decide (a0 ≤ 90) = false := by simp; omega
  have d122 : decide (a0 ≤ 122) = true := by simp; omega
  have d126 : decide (a0 ≤ 126) = true := by simp; omega
  have n95 : (a0 == 95) = false := by simp; omega
  have n95b : (a0 != 95) = true := by simp; omega
  go_enter Try.func9, Try.ntmps9
  go_wp2
  go_ret
  exact ⟨rfl, rfl⟩
set_option maxHeartbeats 1000000 in
theorem walk10 (a0 : Int) (lo : 97 ≤ a0) (hi : a0 ≤ 122) (w : World) :
    Calls Try.prog 3 #[.int .u8 a0] w fun e w' => e = .returned (.bool true) ∧ w' = w := by
  have d57 : decide (a0 ≤ 57) = false := by simp; omega
  have d90 : decide (a0 ≤ 90) = false := by simp; omega
  have d122 : decide (a0 ≤ 122) = true := by simp; omega
  have d126 : decide (a0 ≤ 126) = true := by simp; omega
  have n95 : (a0 == 95) = false := by simp; omega
  have n95b : (a0 != 95) = true := by simp; omega
  go_enter Try.func3, Try.ntmps3
  go_wp2_with (first | (go_at_call 6; refine (digit_no _ (.inr (by omega)) _).mono ?_; rintro e w' ⟨rfl, rfl⟩) | (go_at_call_of 7 (Value.int .u8 100); refine (c10_7_100 _ (by omega) (by omega) _).mono ?_; rintro e w' ⟨rfl, rfl⟩) | (go_at_call_of 7 (Value.int .u8 68); refine (c10_7_68 _ (by omega) (by omega) _).mono ?_; rintro e w' ⟨rfl, rfl⟩) | (go_at_call_of 7 (Value.int .u8 97); refine (c10_7_97 _ (by omega) (by omega) _).mono ?_; rintro e w' ⟨rfl, rfl⟩) | (go_at_call_of 7 (Value.int .u8 112); refine (c10_7_112 _ (by omega) (by omega) _).mono ?_; rintro e w' ⟨rfl, rfl⟩) | (go_at_call 8; refine (c10_8 _ (by omega) (by omega) _).mono ?_; rintro e w' ⟨rfl, rfl⟩) | (go_at_call 9; refine (c10_9 _ (by omega) (by omega) _).mono ?_; rintro e w' ⟨rfl, rfl⟩))
  go_loop [5, 6] (fun n b => ∃ k : Nat, (k : Int) ≤ a0 + 1 ∧ b = .int .i64 k ∧ n = .int .i64 (cntD k)) (fun _ b => (a0 + 1 - intOf b).toNat)
  case atStart => exact ⟨0, by omega, rfl, rfl⟩
  case round =>
    obtain ⟨k, hk, rfl, rfl⟩ := hrel
    have hd := cntD_bd k
    by_cases hlt : (k : Int) ≤ a0
    · by_cases h1 : (k : Int) < 48
      · have HS : Hid (cntD (k + 1) = cntD k) := cntD_no k (.inl h1)
        go_wp2_with (go_at_call 6; refine (digit_no _ (.inl (by omega)) _).mono ?_; rintro e w' ⟨rfl, rfl⟩)
        go_round
        case rel => exact ⟨k + 1, by omega, by go_num, by rw [HS.out]⟩
        case measure => simp [intOf]; omega
      · by_cases h2 : (k : Int) ≤ 57
        · have HS : Hid (cntD (k + 1) = cntD k + 1) := cntD_yes k (by omega) h2
          go_wp2_with (go_at_call 6; refine (digit_yes _ (by omega) (by omega) _).mono ?_; rintro e w' ⟨rfl, rfl⟩)
          go_round
          case rel => exact ⟨k + 1, by omega, by go_num, by rw [HS.out]⟩
          case measure => simp [intOf]; omega
        · have HS : Hid (cntD (k + 1) = cntD k) := cntD_no k (.inr (by omega))
          go_wp2_with (go_at_call 6; refine (digit_no _ (.inr (by omega)) _).mono ?_; rintro e w' ⟨rfl, rfl⟩)
          go_round
          case rel => exact ⟨k + 1, by omega, by go_num, by rw [HS.out]⟩
          case measure => simp [intOf]; omega
    · have hkk : (k : Int) = a0 + 1 := by omega
      have HC : Hid (cntD k = 10) := cnt_hi k (by omega)
      clear hkk
      rw [HC.out]
      go_wp2
      go_ret
      exact ⟨rfl, rfl⟩
theorem c11_7_100 (a0 : Int) (lo : 123 ≤ a0) (hi : a0 ≤ 126) (w : World) :
    Calls Try.prog 7 #[.int .u8 a0, .int .u8 100] w fun e w' => e = .returned (.bool false) ∧ w' = w := by
  have b1 := bits_d
  have d57 : decide (a0 ≤ 57) = false := by simp; omega
  have d90 : decide (a0 ≤ 90) = false := by simp; omega
  have d122 : decide (a0 ≤ 122) = false := by simp; omega
  have d126 : decide (a0 ≤ 126) = true := by simp; omega
  have n95 : (a0 == 95) = false := by simp; omega
  have n95b : (a0 != 95) = true := by simp; omega
  go_enter Try.func7, Try.ntmps7
  go_wp2
  go_ret
  exact ⟨rfl, rfl⟩
theorem c11_7_68 (a0 : Int) (lo : 123 ≤ a0) (hi : a0 ≤ 126) (w : World) :
    Calls Try.prog 7 #[.int .u8 a0, .int .u8 68] w fun e w' => e = .returned (.bool true) ∧ w' = w := by
  have b1 := bits_D
  have d57 : decide (a0 ≤ 57) = false := by simp; omega
  have d90 : decide (a0 ≤ 90) = false := by simp; omega
  have d122 : decide (a0 ≤ 122) = false := by simp; omega
  have d126 : decide (a0 ≤ 126) = true := by simp; omega
  have n95 : (a0 == 95) = false := by simp; omega
  have n95b : (a0 != 95) = true := by simp; omega
  go_enter Try.func7, Try.ntmps7
  go_wp2
  go_ret
  exact ⟨rfl, rfl⟩
theorem c11_7_97 (a0 : Int) (lo : 123 ≤ a0) (hi : a0 ≤ 126) (w : World) :
    Calls Try.prog 7 #[.int .u8 a0, .int .u8 97] w fun e w' => e = .returned (.bool false) ∧ w' = w := by
  have b1 := bits_a
  have d57 : decide (a0 ≤ 57) = false := by simp; omega
  have d90 : decide (a0 ≤ 90) = false := by simp; omega
  have d122 : decide (a0 ≤ 122) = false := by simp; omega
  have d126 : decide (a0 ≤ 126) = true := by simp; omega
  have n95 : (a0 == 95) = false := by simp; omega
  have n95b : (a0 != 95) = true := by simp; omega
  go_enter Try.func7, Try.ntmps7
  go_wp2
  go_ret
  exact ⟨rfl, rfl⟩
theorem c11_7_112 (a0 : Int) (lo : 123 ≤ a0) (hi : a0 ≤ 126) (w : World) :
    Calls Try.prog 7 #[.int .u8 a0, .int .u8 112] w fun e w' => e = .returned (.bool true) ∧ w' = w := by
  have b1 := bits_p
  have d57 : decide (a0 ≤ 57) = false := by simp; omega
  have d90 : decide (a0 ≤ 90) = false := by simp; omega
  have d122 : decide (a0 ≤ 122) = false := by simp; omega
  have d126 : decide (a0 ≤ 126) = true := by simp; omega
  have n95 : (a0 == 95) = false := by simp; omega
  have n95b : (a0 != 95) = true := by simp; omega
  go_enter Try.func7, Try.ntmps7
  go_wp2
  go_ret
  exact ⟨rfl, rfl⟩
theorem c11_8 (a0 : Int) (lo : 123 ≤ a0) (hi : a0 ≤ 126) (w : World) :
    Calls Try.prog 8 #[.int .u8 a0] w fun e w' => e = .returned (.bool false) ∧ w' = w := by
  have d57 : decide (a0 ≤ 57) = false := by simp; omega
  have d90 : decide (a0 ≤ 90) = false := by simp; omega
  have d122 : decide (a0 ≤ 122) = false := by simp; omega
  have d126 : decide (a0 ≤ 126) = true := by simp; omega
  have n95 : (a0 == 95) = false := by simp; omega
  have n95b : (a0 != 95) = true := by simp; omega
  go_enter Try.func8, Try.ntmps8
  go_wp2
  go_ret
  exact ⟨rfl, rfl⟩
theorem c11_9 (a0 : Int) (lo : 123 ≤ a0) (hi : a0 ≤ 126) (w : World) :
    Calls Try.prog 9 #[.int .u8 a0] w fun e w' => e = .returned (.bool false) ∧ w' = w := by
  have d57 : decide (a0 ≤ 57) = false := by simp; omega
  have d90 : decide (a0 ≤ 90) = false := by simp; omega
  have d122 : decide (a0 ≤ 122) = false := by simp; omega
  have d126 : decide (a0 ≤ 126) = true := by simp; omega
  have n95 : (a0 == 95) = false := by simp; omega
  have n95b : (a0 != 95) = true := by simp; omega
  go_enter Try.func9, Try.ntmps9
  go_wp2
  go_ret
  exact ⟨rfl, rfl⟩
set_option maxHeartbeats 1000000 in
theorem walk11 (a0 : Int) (lo : 123 ≤ a0) (hi : a0 ≤ 126) (w : World) :
    Calls Try.prog 3 #[.int .u8 a0] w fun e w' => e = .returned (.bool true) ∧ w' = w := by
  have d57 : decide (a0 ≤ 57) = false := by simp; omega
  have d90 : decide (a0 ≤ 90) = false := by simp; omega
  have d122 : decide (a0 ≤ 122) = false := by simp; omega
  have d126 : decide (a0 ≤ 126) = true := by simp; omega
  have n95 : (a0 == 95) = false := by simp; omega
  have n95b : (a0 != 95) = true := by simp; omega
  go_enter Try.func3, Try.ntmps3
  go_wp2_with (first | (go_at_call 6; refine (digit_no _ (.inr (by omega)) _).mono ?_; rintro e w' ⟨rfl, rfl⟩) | (go_at_call_of 7 (Value.int .u8 100); refine (c11_7_100 _ (by omega) (by omega) _).mono ?_; rintro e w' ⟨rfl, rfl⟩) | (go_at_call_of 7 (Value.int .u8 68); refine (c11_7_68 _ (by omega) (by omega) _).mono ?_; rintro e w' ⟨rfl, rfl⟩) | (go_at_call_of 7 (Value.int .u8 97); refine (c11_7_97 _ (by omega) (by omega) _).mono ?_; rintro e w' ⟨rfl, rfl⟩) | (go_at_call_of 7 (Value.int .u8 112); refine (c11_7_112 _ (by omega) (by omega) _).mono ?_; rintro e w' ⟨rfl, rfl⟩) | (go_at_call 8; refine (c11_8 _ (by omega) (by omega) _).mono ?_; rintro e w' ⟨rfl, rfl⟩) | (go_at_call 9; refine (c11_9 _ (by omega) (by omega) _).mono ?_; rintro e w' ⟨rfl, rfl⟩))
  go_loop [5, 6] (fun n b => ∃ k : Nat, (k : Int) ≤ a0 + 1 ∧ b = .int .i64 k ∧ n = .int .i64 (cntD k)) (fun _ b => (a0 + 1 - intOf b).toNat)
  case atStart => exact ⟨0, by omega, rfl, rfl⟩
  case round =>
    obtain ⟨k, hk, rfl, rfl⟩ := hrel
    have hd := cntD_bd k
    by_cases hlt : (k : Int) ≤ a0
    · by_cases h1 : (k : Int) < 48
      · have HS : Hid (cntD (k + 1) = cntD k) := cntD_no k (.inl h1)
        go_wp2_with (go_at_call 6; refine (digit_no _ (.inl (by omega)) _).mono ?_; rintro e w' ⟨rfl, rfl⟩)
        go_round
        case rel => exact ⟨k + 1, by omega, by go_num, by rw [HS.out]⟩
        case measure => simp [intOf]; omega
      · by_cases h2 : (k : Int) ≤ 57
        · have HS : Hid (cntD (k + 1) = cntD k + 1) := cntD_yes k (by omega) h2
          go_wp2_with (go_at_call 6; refine (digit_yes _ (by omega) (by omega) _).mono ?_; rintro e w' ⟨rfl, rfl⟩)
          go_round
          case rel => exact ⟨k + 1, by omega, by go_num, by rw [HS.out]⟩
          case measure => simp [intOf]; omega
        · have HS : Hid (cntD (k + 1) = cntD k) := cntD_no k (.inr (by omega))
          go_wp2_with (go_at_call 6; refine (digit_no _ (.inr (by omega)) _).mono ?_; rintro e w' ⟨rfl, rfl⟩)
          go_round
          case rel => exact ⟨k + 1, by omega, by go_num, by rw [HS.out]⟩
          case measure => simp [intOf]; omega
    · have hkk : (k : Int) = a0 + 1 := by omega
      have HC : Hid (cntD k = 10) := cnt_hi k (by omega)
      clear hkk
      rw [HC.out]
      go_wp2
      go_ret
      exact ⟨rfl, rfl⟩
theorem c12_7_100 (a0 : Int) (lo : 127 ≤ a0) (hi : a0 ≤ 255) (w : World) :
    Calls Try.prog 7 #[.int .u8 a0, .int .u8 100] w fun e w' => e = .returned (.bool false) ∧ w' = w := by
  have b1 := bits_d
  have d57 : decide (a0 ≤ 57) = false := by simp; omega
  have d90 : decide (a0 ≤ 90) = false := by simp; omega
  have d122 : decide (a0 ≤ 122) = false := by simp; omega
  have d126 : decide (a0 ≤ 126) = false := by simp; omega
  have n95 : (a0 == 95) = false := by simp; omega
  have n95b : (a0 != 95) = true := by simp; omega
  go_enter Try.func7, Try.ntmps7
  go_wp2
  go_ret
  exact ⟨rfl, rfl⟩
theorem c12_7_68 (a0 : Int) (lo : 127 ≤ a0) (hi : a0 ≤ 255) (w : World) :
    Calls Try.prog 7 #[.int .u8 a0, .int .u8 68] w fun e w' => e = .returned (.bool true) ∧ w' = w := by
  have b1 := bits_D
  have d57 : decide (a0 ≤ 57) = false := by simp; omega
  have d90 : decide (a0 ≤ 90) = false := by simp; omega
  have d122 : decide (a0 ≤ 122) = false := by simp; omega
  have d126 : decide (a0 ≤ 126) = false := by simp; omega
  have n95 : (a0 == 95) = false := by simp; omega
  have n95b : (a0 != 95) = true := by simp; omega
  go_enter Try.func7, Try.ntmps7
  go_wp2
  go_ret
  exact ⟨rfl, rfl⟩
theorem c12_7_97 (a0 : Int) (lo : 127 ≤ a0) (hi : a0 ≤ 255) (w : World) :
    Calls Try.prog 7 #[.int .u8 a0, .int .u8 97] w fun e w' => e = .returned (.bool false) ∧ w' = w := by
  have b1 := bits_a
  have d57 : decide (a0 ≤ 57) = false := by simp; omega
  have d90 : decide (a0 ≤ 90) = false := by simp; omega
  have d122 : decide (a0 ≤ 122) = false := by simp; omega
  have d126 : decide (a0 ≤ 126) = false := by simp; omega
  have n95 : (a0 == 95) = false := by simp; omega
  have n95b : (a0 != 95) = true := by simp; omega
  go_enter Try.func7, Try.ntmps7
  go_wp2
  go_ret
  exact ⟨rfl, rfl⟩
theorem c12_7_112 (a0 : Int) (lo : 127 ≤ a0) (hi : a0 ≤ 255) (w : World) :
    Calls Try.prog 7 #[.int .u8 a0, .int .u8 112] w fun e w' => e = .returned (.bool false) ∧ w' = w := by
  have b1 := bits_p
  have d57 : decide (a0 ≤ 57) = false := by simp; omega
  have d90 : decide (a0 ≤ 90) = false := by simp; omega
  have d122 : decide (a0 ≤ 122) = false := by simp; omega
  have d126 : decide (a0 ≤ 126) = false := by simp; omega
  have n95 : (a0 == 95) = false := by simp; omega
  have n95b : (a0 != 95) = true := by simp; omega
  go_enter Try.func7, Try.ntmps7
  go_wp2
  go_ret
  exact ⟨rfl, rfl⟩
theorem c12_8 (a0 : Int) (lo : 127 ≤ a0) (hi : a0 ≤ 255) (w : World) :
    Calls Try.prog 8 #[.int .u8 a0] w fun e w' => e = .returned (.bool false) ∧ w' = w := by
  have d57 : decide (a0 ≤ 57) = false := by simp; omega
  have d90 : decide (a0 ≤ 90) = false := by simp; omega
  have d122 : decide (a0 ≤ 122) = false := by simp; omega
  have d126 : decide (a0 ≤ 126) = false := by simp; omega
  have n95 : (a0 == 95) = false := by simp; omega
  have n95b : (a0 != 95) = true := by simp; omega
  go_enter Try.func8, Try.ntmps8
  go_wp2
  go_ret
  exact ⟨rfl, rfl⟩
theorem c12_9 (a0 : Int) (lo : 127 ≤ a0) (hi : a0 ≤ 255) (w : World) :
    Calls Try.prog 9 #[.int .u8 a0] w fun e w' => e = .returned (.bool false) ∧ w' = w := by
  have d57 : decide (a0 ≤ 57) = false := by simp; omega
  have d90 : decide (a0 ≤ 90) = false := by simp; omega
  have d122 : decide (a0 ≤ 122) = false := by simp; omega
  have d126 : decide (a0 ≤ 126) = false := by simp; omega
  have n95 : (a0 == 95) = false := by simp; omega
  have n95b : (a0 != 95) = true := by simp; omega
  go_enter Try.func9, Try.ntmps9
  go_wp2
  go_ret
  exact ⟨rfl, rfl⟩
set_option maxHeartbeats 1000000 in
theorem walk12 (a0 : Int) (lo : 127 ≤ a0) (hi : a0 ≤ 255) (w : World) :
    Calls Try.prog 3 #[.int .u8 a0] w fun e w' => e = .returned (.bool true) ∧ w' = w := by
  have d57 : decide (a0 ≤ 57) = false := by simp; omega
  have d90 : decide (a0 ≤ 90) = false := by simp; omega
  have d122 : decide (a0 ≤ 122) = false := by simp; omega
  have d126 : decide (a0 ≤ 126) = false := by simp; omega
  have n95 : (a0 == 95) = false := by simp; omega
  have n95b : (a0 != 95) = true := by simp; omega
  go_enter Try.func3, Try.ntmps3
  go_wp2_with (first | (go_at_call 6; refine (digit_no _ (.inr (by omega)) _).mono ?_; rintro e w' ⟨rfl, rfl⟩) | (go_at_call_of 7 (Value.int .u8 100); refine (c12_7_100 _ (by omega) (by omega) _).mono ?_; rintro e w' ⟨rfl, rfl⟩) | (go_at_call_of 7 (Value.int .u8 68); refine (c12_7_68 _ (by omega) (by omega) _).mono ?_; rintro e w' ⟨rfl, rfl⟩) | (go_at_call_of 7 (Value.int .u8 97); refine (c12_7_97 _ (by omega) (by omega) _).mono ?_; rintro e w' ⟨rfl, rfl⟩) | (go_at_call_of 7 (Value.int .u8 112); refine (c12_7_112 _ (by omega) (by omega) _).mono ?_; rintro e w' ⟨rfl, rfl⟩) | (go_at_call 8; refine (c12_8 _ (by omega) (by omega) _).mono ?_; rintro e w' ⟨rfl, rfl⟩) | (go_at_call 9; refine (c12_9 _ (by omega) (by omega) _).mono ?_; rintro e w' ⟨rfl, rfl⟩))
  go_loop [5, 6] (fun n b => ∃ k : Nat, (k : Int) ≤ a0 + 1 ∧ b = .int .i64 k ∧ n = .int .i64 (cntD k)) (fun _ b => (a0 + 1 - intOf b).toNat)
  case atStart => exact ⟨0, by omega, rfl, rfl⟩
  case round =>
    obtain ⟨k, hk, rfl, rfl⟩ := hrel
    have hd := cntD_bd k
    by_cases hlt : (k : Int) ≤ a0
    · by_cases h1 : (k : Int) < 48
      · have HS : Hid (cntD (k + 1) = cntD k) := cntD_no k (.inl h1)
        go_wp2_with (go_at_call 6; refine (digit_no _ (.inl (by omega)) _).mono ?_; rintro e w' ⟨rfl, rfl⟩)
        go_round
        case rel => exact ⟨k + 1, by omega, by go_num, by rw [HS.out]⟩
        case measure => simp [intOf]; omega
      · by_cases h2 : (k : Int) ≤ 57
        · have HS : Hid (cntD (k + 1) = cntD k + 1) := cntD_yes k (by omega) h2
          go_wp2_with (go_at_call 6; refine (digit_yes _ (by omega) (by omega) _).mono ?_; rintro e w' ⟨rfl, rfl⟩)
          go_round
          case rel => exact ⟨k + 1, by omega, by go_num, by rw [HS.out]⟩
          case measure => simp [intOf]; omega
        · have HS : Hid (cntD (k + 1) = cntD k) := cntD_no k (.inr (by omega))
          go_wp2_with (go_at_call 6; refine (digit_no _ (.inr (by omega)) _).mono ?_; rintro e w' ⟨rfl, rfl⟩)
          go_round
          case rel => exact ⟨k + 1, by omega, by go_num, by rw [HS.out]⟩
          case measure => simp [intOf]; omega
    · have hkk : (k : Int) = a0 + 1 := by omega
      have HC : Hid (cntD k = 10) := cnt_hi k (by omega)
      clear hkk
      rw [HC.out]
      go_wp2
      go_ret
      exact ⟨rfl, rfl⟩
/-! ### STEP 1: THE WALK: the Go text returns true. 'Grown w w'': the world has at most new blocks (Derived/RowKit3.lean). Part the cases AHEAD of 'go_enter' where a test parts the walk; take each callee by a contract of your own. -/
theorem walk (a0 : Int) (w0 : (Lit.int .u8 a0).wf = true) (w : World) :
    Calls Try.prog 3 #[.int .u8 a0] w fun e w' => e = .returned (.bool true) ∧ Grown w w' := by
  have hb := bounds_u8 w0
  by_cases h0 : a0 ≤ 31
  · exact (walk0 a0 (by omega) h0 w).mono fun e w' h => ⟨h.1, h.2 ▸ Grown.refl _⟩
  by_cases h1 : a0 ≤ 32
  · exact (walk1 a0 (by omega) h1 w).mono fun e w' h => ⟨h.1, h.2 ▸ Grown.refl _⟩
  by_cases h2 : a0 ≤ 46
  · exact (walk2 a0 (by omega) h2 w).mono fun e w' h => ⟨h.1, h.2 ▸ Grown.refl _⟩
  by_cases h3 : a0 ≤ 47
  · exact (walk3 a0 (by omega) h3 w).mono fun e w' h => ⟨h.1, h.2 ▸ Grown.refl _⟩
  by_cases h4 : a0 ≤ 57
  · exact (walk4 a0 (by omega) h4 w).mono fun e w' h => ⟨h.1, h.2 ▸ Grown.refl _⟩
  by_cases h5 : a0 ≤ 64
  · exact (walk5 a0 (by omega) h5 w).mono fun e w' h => ⟨h.1, h.2 ▸ Grown.refl _⟩
  by_cases h6 : a0 ≤ 90
  · exact (walk6 a0 (by omega) h6 w).mono fun e w' h => ⟨h.1, h.2 ▸ Grown.refl _⟩
  by_cases h7 : a0 ≤ 94
  · exact (walk7 a0 (by omega) h7 w).mono fun e w' h => ⟨h.1, h.2 ▸ Grown.refl _⟩
  by_cases h8 : a0 ≤ 95
  · exact (walk8 a0 (by omega) h8 w).mono fun e w' h => ⟨h.1, h.2 ▸ Grown.refl _⟩
  by_cases h9 : a0 ≤ 96
  · exact (walk9 a0 (by omega) h9 w).mono fun e w' h => ⟨h.1, h.2 ▸ Grown.refl _⟩
  by_cases h10 : a0 ≤ 122
  · exact (walk10 a0 (by omega) h10 w).mono fun e w' h => ⟨h.1, h.2 ▸ Grown.refl _⟩
  by_cases h11 : a0 ≤ 126
  · exact (walk11 a0 (by omega) h11 w).mono fun e w' h => ⟨h.1, h.2 ▸ Grown.refl _⟩
  exact (walk12 a0 (by omega) (by omega) w).mono fun e w' h => ⟨h.1, h.2 ▸ Grown.refl _⟩

/-! ### THE ROW's STEP: WRITTEN OUT: LEAVE IT -/
set_option maxRecDepth 100000 in
theorem lifted (os : Os) (started : os.Started) (H : Type) (enc : TypeId × Value → H) :
    ReturnsInHanded {} Try.checked os 3 .any (Rows.fnIsDigitClassesAndCountSpec.pre6 enc Try.prog Try.f3 Rows.fnIsDigitClassesAndCountRow.domain false) (Rows.fnIsDigitClassesAndCountSpec.post enc Try.prog Try.f3 false true false false) := by
  refine returnsInHanded_of_change (C := Try.checked) own started (by kernel_rfl) Try.func3
    (ChangeSpec.witness6 (enc := enc) (C := Try.checked) false ⟨#[], #[.int .u8 0], []⟩ 8 (by kernel_rfl) (by kernel_rfl) (by kernel_rfl) (by kernel_rfl)) ?_
  intro W base args ds gs before hval0 hW hcnd _
  have hval : ∀ (j : Nat) t v, Try.f3.params[j]? = some t → args[j]? = some v → Value.okWide Try.prog W .any base t v := hval0
  have hW' := hW
  obtain ⟨p, q, hA0, hV, rfl, hfz, hnd⟩ := hW
  have hA : DataW.TrodAll enc Try.prog W 0 (fun _ => true) true Try.f3.params.toList args.toList ds p := hA0
  rw [Try.params3] at hA hval
  obtain ⟨v0, vs0, d0, ds0, p0, q0, hargs, rfl, rfl, h0, r0⟩ := trodAll_cons hA
  obtain ⟨rfl, rfl, rfl⟩ := trodAll_nil r0
  obtain rfl : args = #[v0] := by cases args; simp_all
  obtain ⟨rfl, rfl⟩ := trodVars_none hV
  obtain ⟨a0, rfl, rfl, rfl, w0⟩ := open_int Try.underlying5 (hval 0 5 v0 rfl rfl) h0
  clear hA0 hval0
  simp only [List.append_nil] at hW'
  refine (walk a0 w0 W).mono fun e W' ⟨he, hg⟩ => ?_
  subst he
  exact ⟨_, rfl, post_of_same (pa := []) (pv := []) hW' (fun _ _ _ => (trodAll_cons_mk (shut_bool Try.underlying4 _) trodAll_mk0)) (fun sp _ => (trodAll_cons_mk (shut_int Try.underlying5 w0) trodAll_mk0)) (fun _ _ => rfl) rfl
    (hg.frame _) hg.2.1 (ok_one (by kernel_rfl) rfl (okWide_bool_mk Try.underlying4 _))⟩

theorem over : Rows.fnIsDigitClassesAndCountRow.holds Try.pinned (OpenSpec.ofChange Rows.fnIsDigitClassesAndCountSpec) :=
  OpenClaim.holds_of_wide 3 Try.f3 rfl rfl rfl rfl rfl rfl rfl ⟨rfl, rfl, rfl, rfl, rfl⟩ rfl rfl rfl rfl rfl (by kernel_rfl) Try.func3 (by kernel_rfl)
    (of_decide_eq_true (by kernel_rfl)) (by unfold Func.isWrapper; first | (rw [if_pos (by decide +kernel)]; kernel_rfl) | (rw [if_neg (by decide +kernel)]; exact ⟨rfl, rfl⟩))
    (fun os started H enc _ => lifted os started H enc)

/-- ████ THE STATEMENT ████ -/
theorem proved : Rows.FnIsDigitClassesAndCountSaid :=
  over
#print axioms proved
end Go.Proofs.Qxb6616951a.fnIsDigitClassesAndCount
