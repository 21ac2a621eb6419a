/-
  THE SMALL FUNCTIONS: sameFloat (at two floats that are one), kept, find, slices.BinarySearch at int32, index, Clip.
-/
import Derived.Test.Qxb6616522aFmtRows
import Derived.Test.Qxb6616522aFmtSortA
import Derived.WalkKit
import Derived.WalkLawsBesides
import Derived.Laws.FloatArith
import Derived.Deep.OwnRows
namespace Go.Proofs.Qxb6616522aFmt
open Go.RowKit

/-- One over a float that is no NaN has bits of its own. -/
theorem recip (x : Nat) (h : (FloatKind.f64.format.order x x == some .eq) = true) : ∃ r, floatBits .quo .f64 4607182418800017408 x = some r := by
  have h1 : FloatKind.f64.format.read 4607182418800017408 = .number false 4503599627370496 (-52) := by decide +kernel
  have h2 : (FloatKind.f64.format.read x).order (FloatKind.f64.format.read x) = some .eq := by simpa [Ieee.Format.order] using h
  show ∃ r, FloatKind.f64.format.div 4607182418800017408 x = some r
  unfold Ieee.Format.div
  rw [h1]
  cases hd : FloatKind.f64.format.read x with
  | nan s f => rw [hd] at h2; simp [Ieee.Datum.order] at h2
  | infinity s => simp [Ieee.Datum.quotient]
  | number s m i =>
    simp only [Ieee.Datum.quotient]
    split <;> simp

set_option maxHeartbeats 1000000 in
theorem sameFloat_self (x : Nat) (w : World) :
    Calls Tryf.prog 20 #[.float .f64 x, .float .f64 x] w fun e w' => e = .returned (.bool true) ∧ w' = w := by
  by_cases h : (FloatKind.f64.format.order x x == some .eq) = true
  · obtain ⟨r, hr⟩ := recip x h
    have hq := fun w => run_float_arith (P := Tryf.prog) w .quo 24 .f64 4607182418800017408 x r hr
    have hn : (FloatKind.f64.format.order x x != some .eq) = false := by simpa [bne] using h
    clear h hr
    go_enter Tryf.func20, Tryf.ntmps20
    go_wp2
    all_goals (go_ret; exact ⟨by simp, rfl⟩)
  · have hn : (FloatKind.f64.format.order x x != some .eq) = true := by simpa [bne] using h
    clear h
    go_enter Tryf.func20, Tryf.ntmps20
    go_wp2
    go_ret
    exact ⟨rfl, rfl⟩

theorem kept_all (i : Int) (s : Value) (w : World) :
    Calls Tryf.prog 19 #[.int .i64 i, s, .bool false] w fun e w' => e = .returned (.bool true) ∧ w' = w := by
  go_enter Tryf.func19, Tryf.ntmps19
  go_wp2
  go_ret
  exact ⟨rfl, rfl⟩
/-- What 'keep' says of index i: false past its end. -/
def mask (m : Nat) (K : Nat → Bool) (i : Nat) : Bool := decide (i < m) && K i
theorem kept_none (i m cap : Nat) (a : Option Addr) (h : m ≤ i) (w : World) :
    Calls Tryf.prog 19 #[.int .i64 i, .slice a m cap, .bool true] w fun e w' => e = .returned (.bool false) ∧ w' = w := by
  have hd : decide ((i : Int) < m) = false := by simp; omega
  go_enter Tryf.func19, Tryf.ntmps19
  go_wp2
  go_ret
  exact ⟨rfl, rfl⟩
theorem kept_some (i m cap b : Nat) (K : Bool) (h : i < m) (w : World) (hc : w.cell? ⟨b, i, none⟩ = some (.bool K)) :
    Calls Tryf.prog 19 #[.int .i64 i, .slice (some ⟨b, 0, none⟩) m cap, .bool true] w fun e w' => e = .returned (.bool K) ∧ w' = w := by
  have hi' : (i : Int) < m := by omega
  go_enter Tryf.func19, Tryf.ntmps19
  go_wp2
  go_ret
  exact ⟨rfl, rfl⟩

/-- Ascending, each once. -/
def Asc (n : Nat) (I : Nat → Int) : Prop := ∀ i j, i < j → j < n → I i < I j
theorem Asc.le {n : Nat} {I : Nat → Int} (h : Asc n I) {i j : Nat} (hj : j < n) (hij : i ≤ j) : I i ≤ I j := by
  rcases Nat.lt_or_ge i j with h1 | h1
  · exact Int.le_of_lt (h i j h1 hj)
  · have : i = j := by omega
    subst this; exact Int.le_refl _
theorem Asc.lt_of {n : Nat} {I : Nat → Int} (h : Asc n I) {i j : Nat} (hi : i < n) (hlt : I i < I j) : i < j := by
  rcases Nat.lt_or_ge i j with h1 | h1
  · exact h1
  · have := h.le hi h1; omega
theorem Asc.ge_of {n : Nat} {I : Nat → Int} (h : Asc n I) {i j : Nat} (hj : j < n) (hge : ¬ I i < I j) : j ≤ i := by
  rcases Nat.lt_or_ge i j with h1 | h1
  · exact absurd (h i j h1 hj) hge
  · exact h1

set_option maxHeartbeats 1000000 in
/-- find: the place of an id that ids holds. -/
theorem find_at (n cap b : Nat) (I : Nat → Int) (t : Nat) (ht : t < n) (hn : n ≤ 1048576) (hI : Asc n I) (w : World) (hc : ∀ i, i < n → w.cell? ⟨b, i, none⟩ = some (.int .i32 (I i))) :
    Calls Tryf.prog 18 #[.slice (some ⟨b, 0, none⟩) n cap, .int .i32 (I t)] w fun e w' => e = .returned (.int .i64 t) ∧ w' = w := by
  have HC : Hid (∀ i, i < n → w.cell? ⟨b, i, none⟩ = some (.int .i32 (I i))) := hc
  clear hc
  go_enter Tryf.func18, Tryf.ntmps18
  go_wp2
  go_loop [5, 6] (fun l h => ∃ lo hi : Nat, l = .int .i64 lo ∧ h = .int .i64 hi ∧ lo ≤ t ∧ t ≤ hi ∧ hi ≤ n) (fun l h => ((intOf h) - (intOf l)).toNat)
  case atStart => exact ⟨0, n, rfl, rfl, by omega, by omega, Nat.le_refl _⟩
  case round =>
    obtain ⟨lo, hi, rfl, rfl, h1, h2, h3⟩ := hrel
    by_cases hlt : lo < hi
    · obtain ⟨mid, hmid⟩ : ∃ mid : Nat, mid = lo + (hi - lo) / 2 := ⟨_, rfl⟩
      have hm : (lo : Int) + ((hi : Int) - lo) / 2 = (mid : Int) := by omega
      have hmn : mid < n := by omega
      have cm := HC.out mid hmn
      have HM : Hid (mid = lo + (hi - lo) / 2) := hmid
      clear hmid
      by_cases hx : I mid < I t
      · have hg := hI.lt_of hmn hx
        go_wp2
        go_round
        case rel => exact ⟨mid + 1, hi, by go_num, rfl, by omega, h2, h3⟩
        case measure => have := HM.out; simp [intOf]; omega
      · have hg := hI.ge_of ht hx
        go_wp2
        go_round
        case rel => exact ⟨lo, mid, rfl, rfl, h1, by omega, by omega⟩
        case measure => have := HM.out; simp [intOf]; omega
    · obtain rfl : lo = t := by omega
      have cm := HC.out lo ht
      have hlo : (lo : Int) < n := by omega
      go_wp2
      go_ret
      exact ⟨rfl, rfl⟩

set_option maxHeartbeats 1000000 in
/-- slices.BinarySearch at an element that the slice holds. -/
theorem bsearch_at (n cap b : Nat) (I : Nat → Int) (t : Nat) (ht : t < n) (hn : n ≤ 1048576) (hI : Asc n I) (w : World) (hc : ∀ i, i < n → w.cell? ⟨b, i, none⟩ = some (.int .i32 (I i))) :
    Calls Tryf.prog 33 #[.slice (some ⟨b, 0, none⟩) n cap, .int .i32 (I t)] w fun e w' => e = .returned (.tuple #[.int .i64 t, .bool true]) ∧ w' = w := by
  have HC : Hid (∀ i, i < n → w.cell? ⟨b, i, none⟩ = some (.int .i32 (I i))) := hc
  clear hc
  go_enter Tryf.func33, Tryf.ntmps33
  go_wp2
  go_loop [7, 8] (fun l h => ∃ lo hi : Nat, l = .int .i64 lo ∧ h = .int .i64 hi ∧ lo ≤ t ∧ t ≤ hi ∧ hi ≤ n) (fun l h => ((intOf h) - (intOf l)).toNat)
  case atStart => exact ⟨0, n, rfl, rfl, by omega, by omega, Nat.le_refl _⟩
  case round =>
    obtain ⟨lo, hi, rfl, rfl, h1, h2, h3⟩ := hrel
    by_cases hlt : lo < hi
    · obtain ⟨mid, hmid⟩ : ∃ mid : Nat, mid = (lo + hi) / 2 := ⟨_, rfl⟩
      have hm : ((lo : Int) + (hi : Int)) / 2 = (mid : Int) := by omega
      have hmn : mid < n := by omega
      have cm := HC.out mid hmn
      have HM : Hid (mid = (lo + hi) / 2) := hmid
      clear hmid
      by_cases hx : I mid < I t
      · have hg := hI.lt_of hmn hx
        have hl : Sort.ltInt (I mid) (I t) = true := by simp [Sort.ltInt, hx]
        go_wp2_with (go_at_call 40; refine (cmp_Less_i32 _ _ _).mono ?_; rintro e w' ⟨rfl, rfl⟩)
        go_round
        case rel => exact ⟨mid + 1, hi, by go_num, rfl, by omega, h2, h3⟩
        case measure => have := HM.out; simp [intOf]; omega
      · have hg := hI.ge_of ht hx
        have hl : Sort.ltInt (I mid) (I t) = false := by simp [Sort.ltInt, hx]
        go_wp2_with (go_at_call 40; refine (cmp_Less_i32 _ _ _).mono ?_; rintro e w' ⟨rfl, rfl⟩)
        go_round
        case rel => exact ⟨lo, mid, rfl, rfl, h1, by omega, by omega⟩
        case measure => have := HM.out; simp [intOf]; omega
    · obtain rfl : lo = t := by omega
      have cm := HC.out lo ht
      have hlo : (lo : Int) < n := by omega
      go_wp2
      go_ret2
      exact ⟨rfl, rfl⟩
/-- index. -/
theorem index_at (n cap b : Nat) (I : Nat → Int) (t : Nat) (ht : t < n) (hn : n ≤ 1048576) (hI : Asc n I) (w : World) (hc : ∀ i, i < n → w.cell? ⟨b, i, none⟩ = some (.int .i32 (I i))) :
    Calls Tryf.prog 27 #[.slice (some ⟨b, 0, none⟩) n cap, .int .i32 (I t)] w fun e w' => e = .returned (.int .i32 t) ∧ w' = w := by
  go_enter Tryf.func27, Tryf.ntmps27
  go_wp2_with (go_at_call 33; refine (bsearch_at n cap b I t ht hn hI _ hc).mono ?_; rintro e w' ⟨rfl, rfl⟩)
  go_ret
  exact ⟨rfl, rfl⟩
/-- slices.Clip. -/
theorem clip_at (n cap : Nat) (a : Addr) (h : n ≤ cap) (w : World) :
    Calls Tryf.prog 25 #[.slice (some a) n cap] w fun e w' => e = .returned (.slice (some a) n n) ∧ w' = w := by
  go_enter Tryf.func25, Tryf.ntmps25
  go_wp2
  go_ret
  exact ⟨rfl, rfl⟩
end Go.Proofs.Qxb6616522aFmt
