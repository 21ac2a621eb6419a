/-
  THE WALK OF 'FnRangeContainsIsHalfOpenInterval': ValidatorRange, Contains, slices.BinarySearchFunc at a set of no run or of one.
-/
import Derived.Test.Qxb6617168aFmtRows
import Derived.WalkKit
import Derived.ProofKit
import Derived.OpenShut
namespace Go.Proofs.Qxb6617168aFmt.contains
open Go.ChangeShapes Go.WideShapes Go.ChangeAt Go.RowKit

theorem checkID_ok (lo : Int) (h : 0 ≤ lo) (w : World) :
    Calls Tryf.prog 9 #[.int .i64 lo] w fun e w' => e = .returned (.tuple #[]) ∧ w' = w := by
  go_enter Tryf.func9, Tryf.ntmps9
  go_wp2
  go_end0
  exact ⟨rfl, rfl⟩
theorem range_none (lo hi : Int) (h : 0 ≤ lo) (h1 : hi ≤ lo) (w : World) :
    Calls Tryf.prog 5 #[.int .i64 lo, .int .i64 hi] w fun e w' => e = .returned (.agg #[.slice none 0 0]) ∧ ∃ c1 : Array Value, w' = w.alloc (.cells c1 24) := by
  go_enter Tryf.func5, Tryf.ntmps5
  go_wp2_with (go_at_call 9; refine (checkID_ok _ h _).mono ?_; rintro e w' ⟨rfl, rfl⟩)
  simp [bodyPost, results, Tryf.results5, go_sem]
  exact ⟨_, rfl⟩
theorem range_one (lo hi : Int) (h : 0 ≤ lo) (h1 : lo < hi) (w : World) :
    Calls Tryf.prog 5 #[.int .i64 lo, .int .i64 hi] w fun e w' => e = .returned (.agg #[.slice (some ⟨w.heap.size + 1, 0, none⟩) 1 1]) ∧ ∃ c1 : Array Value, w' = (w.alloc (.cells c1 24)).alloc (.cells #[.int .i64 lo, .int .i64 hi] 34) := by
  go_enter Tryf.func5, Tryf.ntmps5
  go_wp2_with (go_at_call 9; refine (checkID_ok _ h _).mono ?_; rintro e w' ⟨rfl, rfl⟩)
  simp [bodyPost, results, Tryf.results5, go_sem]
  exact ⟨_, rfl⟩
/-- The comparison that Contains hands over. -/
theorem cmp_lt (lo hi id : Int) (h : hi ≤ id) (w : World) :
    Calls Tryf.prog 11 #[.agg #[.int .i64 lo, .int .i64 hi], .int .i64 id] w fun e w' => e = .returned (.int .i64 (-1)) ∧ ∃ c1 : Array Value, w' = w.alloc (.cells c1 34) := by
  go_enter Tryf.func11, Tryf.ntmps11
  go_wp2
  go_ret
  exact ⟨rfl, _, rfl⟩
theorem cmp_ge (lo hi id : Int) (h : id < hi) (w : World) :
    Calls Tryf.prog 11 #[.agg #[.int .i64 lo, .int .i64 hi], .int .i64 id] w fun e w' => e = .returned (.int .i64 0) ∧ ∃ c1 : Array Value, w' = w.alloc (.cells c1 34) := by
  have h' : ¬ hi ≤ id := by omega
  go_enter Tryf.func11, Tryf.ntmps11
  go_wp2
  go_ret
  exact ⟨rfl, _, rfl⟩
/-- slices.BinarySearchFunc over no run. -/
theorem bs_none (id : Int) (w : World) :
    Calls Tryf.prog 10 #[.slice none 0 0, .int .i64 id, .func (.func 11) #[] #[]] w fun e w' => e = .returned (.tuple #[.int .i64 0, .bool false]) ∧ w' = w := by
  go_enter Tryf.func10, Tryf.ntmps10
  go_wp2
  go_loop [9, 10] (fun i j => i = .int .i64 0 ∧ j = .int .i64 0) (fun _ _ => 0)
  case atStart => exact ⟨rfl, rfl⟩
  case round =>
    obtain ⟨rfl, rfl⟩ := hrel
    go_wp2
    go_ret2
    exact ⟨rfl, rfl⟩
/-- .. over one run that ends at or below id: 1; else 0. -/
theorem bs_past (b off : Nat) (lo hi id : Int) (w : World) (h : hi ≤ id) (h0 : w.cell? ⟨b, off, none⟩ = some (.int .i64 lo)) (h1 : w.cell? ⟨b, off + 1, none⟩ = some (.int .i64 hi)) :
    Calls Tryf.prog 10 #[.slice (some ⟨b, off, none⟩) 1 1, .int .i64 id, .func (.func 11) #[] #[]] w fun e w' => e = .returned (.tuple #[.int .i64 1, .bool false]) ∧ ∃ c1 : Array Value, w' = w.alloc (.cells c1 34) := by
  go_enter Tryf.func10, Tryf.ntmps10
  go_wp2
  go_loopw [9, 10] (fun i j wr => (i = .int .i64 0 ∧ j = .int .i64 1 ∧ wr = w) ∨ (i = .int .i64 1 ∧ j = .int .i64 1 ∧ ∃ c1 : Array Value, wr = w.alloc (.cells c1 34))) (fun i _ _ => (1 - intOf i).toNat)
  case atStart => exact .inl ⟨rfl, rfl, rfl⟩
  case round =>
    rcases hrel with ⟨rfl, rfl, rfl⟩ | ⟨rfl, rfl, c1, rfl⟩
    · go_wp2_with (go_at_call 11; refine (cmp_lt _ _ _ h _).mono ?_; rintro e w' ⟨rfl, c1, rfl⟩)
      go_roundw
      case rel => exact .inr ⟨rfl, rfl, _, rfl⟩
      case measure => simp [intOf]
    · go_wp2
      go_ret2
      exact ⟨rfl, _, rfl⟩
theorem bs_at (b off : Nat) (lo hi id : Int) (w : World) (hb : b < w.heap.size) (h : id < hi) (h0 : w.cell? ⟨b, off, none⟩ = some (.int .i64 lo)) (h1 : w.cell? ⟨b, off + 1, none⟩ = some (.int .i64 hi)) :
    Calls Tryf.prog 10 #[.slice (some ⟨b, off, none⟩) 1 1, .int .i64 id, .func (.func 11) #[] #[]] w fun e w' => e = .returned (.tuple #[.int .i64 0, .bool true]) ∧ ∃ c1 c2 : Array Value, w' = (w.alloc (.cells c1 34)).alloc (.cells c2 34) := by
  go_enter Tryf.func10, Tryf.ntmps10
  go_wp2
  go_loopw [9, 10] (fun i j wr => (i = .int .i64 0 ∧ j = .int .i64 1 ∧ wr = w) ∨ (i = .int .i64 0 ∧ j = .int .i64 0 ∧ ∃ c1 : Array Value, wr = w.alloc (.cells c1 34))) (fun _ j _ => (intOf j).toNat)
  case atStart => exact .inl ⟨rfl, rfl, rfl⟩
  case round =>
    rcases hrel with ⟨rfl, rfl, rfl⟩ | ⟨rfl, rfl, c1, rfl⟩
    · go_wp2_with (go_at_call 11; refine (cmp_ge _ _ _ h _).mono ?_; rintro e w' ⟨rfl, c1, rfl⟩)
      go_roundw
      case rel => exact .inr ⟨rfl, rfl, _, rfl⟩
      case measure => simp [intOf]
    · have hb1 : b < w.heap.size + 1 := by omega
      go_wp2_with (go_at_call 11; refine (cmp_ge _ _ _ h _).mono ?_; rintro e w' ⟨rfl, c2, rfl⟩)
      go_ret2
      exact ⟨rfl, _, _, rfl⟩
theorem contains_none (id : Int) (w : World) :
    Calls Tryf.prog 6 #[.agg #[.slice none 0 0], .int .i64 id] w fun e w' => e = .returned (.bool false) ∧ Grown w w' := by
  go_enter Tryf.func6, Tryf.ntmps6
  go_wp2_with (go_at_call 10; refine (bs_none _ _).mono ?_; rintro e w' ⟨rfl, rfl⟩)
  go_ret
  exact ⟨rfl, by repeat (first | exact Grown.refl _ | apply Grown.drew | apply Grown.alloc)⟩
theorem contains_past (b off : Nat) (lo hi id : Int) (w : World) (hb : b < w.heap.size) (h : hi ≤ id) (h0 : w.cell? ⟨b, off, none⟩ = some (.int .i64 lo)) (h1 : w.cell? ⟨b, off + 1, none⟩ = some (.int .i64 hi)) :
    Calls Tryf.prog 6 #[.agg #[.slice (some ⟨b, off, none⟩) 1 1], .int .i64 id] w fun e w' => e = .returned (.bool false) ∧ Grown w w' := by
  have hb1 : b < w.heap.size + 1 := by omega
  go_enter Tryf.func6, Tryf.ntmps6
  go_wp2_with (go_at_call 10; refine (bs_past b off lo hi id _ h (by go_simp) (by go_simp)).mono ?_; rintro e w' ⟨rfl, c1, rfl⟩)
  go_ret
  exact ⟨rfl, by repeat (first | exact Grown.refl _ | apply Grown.drew | apply Grown.alloc)⟩
theorem contains_at (b off : Nat) (lo hi id : Int) (w : World) (hb : b < w.heap.size) (h : id < hi) (h0 : w.cell? ⟨b, off, none⟩ = some (.int .i64 lo)) (h1 : w.cell? ⟨b, off + 1, none⟩ = some (.int .i64 hi)) :
    Calls Tryf.prog 6 #[.agg #[.slice (some ⟨b, off, none⟩) 1 1], .int .i64 id] w fun e w' => e = .returned (.bool (decide (lo ≤ id))) ∧ Grown w w' := by
  have hb1 : b < w.heap.size + 1 := by omega
  have hb2 : b < w.heap.size + 1 + 1 := by omega
  have hb3 : b < w.heap.size + 1 + 1 + 1 := by omega
  go_enter Tryf.func6, Tryf.ntmps6
  go_wp2_with (go_at_call 10; refine (bs_at b off lo hi id _ (by go_simp) h (by go_simp) (by go_simp)).mono ?_; rintro e w' ⟨rfl, c1, c2, rfl⟩)
  go_ret
  exact ⟨rfl, by repeat (first | exact Grown.refl _ | apply Grown.drew | apply Grown.alloc)⟩
theorem grown_trans {a b c : World} (h1 : Grown a b) (h2 : Grown b c) : Grown a c :=
  ⟨World.keptBut_trans h1.1 h2.1, fun x => (h2.2.1 x).trans (h1.2.1 x), Nat.le_trans h1.2.2 h2.2.2⟩
set_option maxHeartbeats 400000 in
theorem walk (lo hi id : Int) (w : World) :
    Calls Tryf.prog 3 #[.int .i64 lo, .int .i64 hi, .int .i64 id] w fun e w' => e = .returned (.bool true) ∧ Grown w w' := by
  by_cases h0 : lo < 0
  · go_enter Tryf.func3, Tryf.ntmps3
    go_wp2
    go_ret
    exact ⟨rfl, Grown.refl _⟩
  · by_cases h1 : hi ≤ lo
    · have hbase : ∀ c1 c2 : Array Value, Grown w ((w.alloc (.cells c1 24)).alloc (.cells c2 24)) := fun c1 c2 => ((Grown.refl _).alloc _ _).alloc _ _
      by_cases h2 : lo ≤ id
      · have hd : decide (id < hi) = false := by simp; omega
        go_enter Tryf.func3, Tryf.ntmps3
        go_wp2_with (first | (go_at_call 5; refine (range_none _ _ (by omega) h1 _).mono ?_; rintro e w' ⟨rfl, c1, rfl⟩) | (go_at_call 6; refine (contains_none _ _).mono ?_; rintro e w' ⟨rfl, hg⟩))
        go_ret
        exact ⟨rfl, grown_trans (hbase _ _) hg⟩
      · have hd : decide (lo ≤ id) = false := by simp; omega
        go_enter Tryf.func3, Tryf.ntmps3
        go_wp2_with (first | (go_at_call 5; refine (range_none _ _ (by omega) h1 _).mono ?_; rintro e w' ⟨rfl, c1, rfl⟩) | (go_at_call 6; refine (contains_none _ _).mono ?_; rintro e w' ⟨rfl, hg⟩))
        go_ret
        exact ⟨rfl, grown_trans (hbase _ _) hg⟩
    · have hbase : ∀ c1 c2 c3 : Array Value, Grown w (((w.alloc (.cells c1 24)).alloc (.cells c2 34)).alloc (.cells c3 24)) := fun c1 c2 c3 => (((Grown.refl _).alloc _ _).alloc _ _).alloc _ _
      by_cases h3 : id < hi
      · by_cases h2 : lo ≤ id
        · have hd : decide (lo ≤ id) = true := by simp; omega
          go_enter Tryf.func3, Tryf.ntmps3
          go_wp2_with (first | (go_at_call 5; refine (range_one _ _ (by omega) (by omega) _).mono ?_; rintro e w' ⟨rfl, c1, rfl⟩) | (go_at_call 6; refine (contains_at (w.heap.size + 1) 0 lo hi id _ (by go_simp) h3 (by go_simp) (by go_simp)).mono ?_; rintro e w' ⟨rfl, hg⟩))
          go_ret
          exact ⟨rfl, grown_trans (hbase _ _ _) hg⟩
        · have hd : decide (lo ≤ id) = false := by simp; omega
          go_enter Tryf.func3, Tryf.ntmps3
          go_wp2_with (first | (go_at_call 5; refine (range_one _ _ (by omega) (by omega) _).mono ?_; rintro e w' ⟨rfl, c1, rfl⟩) | (go_at_call 6; refine (contains_at (w.heap.size + 1) 0 lo hi id _ (by go_simp) h3 (by go_simp) (by go_simp)).mono ?_; rintro e w' ⟨rfl, hg⟩))
          go_ret
          exact ⟨rfl, grown_trans (hbase _ _ _) hg⟩
      · have hd : decide (id < hi) = false := by simp; omega
        have h2 : lo ≤ id := by omega
        go_enter Tryf.func3, Tryf.ntmps3
        go_wp2_with (first | (go_at_call 5; refine (range_one _ _ (by omega) (by omega) _).mono ?_; rintro e w' ⟨rfl, c1, rfl⟩) | (go_at_call 6; refine (contains_past (w.heap.size + 1) 0 lo hi id _ (by go_simp) (by omega) (by go_simp) (by go_simp)).mono ?_; rintro e w' ⟨rfl, hg⟩))
        go_ret
        exact ⟨rfl, grown_trans (hbase _ _ _) hg⟩
end Go.Proofs.Qxb6617168aFmt.contains
