/-
  THE PROOF OF 'Rows.FnFigureSignTimesMagnitudeIsCoefficientSaid' ('example.com/tuoguan/tuoguan/zzlaws_internal_book_b1.FnFigureSignTimesMagnitudeIsCoefficient'), WRITTEN BY PROGRAM (proof-skeleton.mjs) off the guide's own print for that function. Not trusted: Lean checks it.
-/
import Derived.Test.Qxb6619044aRows
import Derived.WalkKit
import Derived.ProofKit
import Derived.OpenShut
import Derived.ShutString
namespace Go.Proofs.Qxb6619044a.fnFigureSignTimesMagnitudeIsCoefficient
open Go.ChangeShapes Go.WideShapes Go.ChangeAt Go.RowKit
open Go.ChangeMaps (open_string shut_string)
set_option linter.unusedVariables false      -- a walk need not use every 'w<i>' (that an integer argument fits its kind)

theorem own : ownKnob Try.prog.godebug = none := by kernel_rfl

/-! ### THE CALLEES' CONTRACTS -/
/-- ZZNewFigure. -/
theorem newfig (c x : Int) (w : World) :
    Calls Try.prog 5 #[.int .i64 c, .int .i32 x] w fun e w' =>
      e = .returned (.agg #[.int .i64 c, .int .i32 x, .pointer none]) ∧ ∃ c1 : Array Value, w' = w.alloc (.cells c1 24) := by
  go_enter Try.func5, Try.ntmps5
  go_wp2
  simp [bodyPost, results, Try.results5, go_sem]
  exact ⟨_, rfl⟩
theorem ret_int {k : IntKind} {a b : Int} (h : a = b) : Ending.returned (.int k a) = .returned (.int k b) := by rw [h]
/-- ZZAbsolute, by absolute: below zero, not below. -/
theorem abs_neg (c : Int) (h : c < 0) (h0 : -9223372036854775808 < c) (w : World) :
    Calls Try.prog 7 #[.int .i64 c] w fun e w' => e = .returned (.int .u64 (-c)) ∧ w' = w := by
  go_enter Try.func7, Try.ntmps7
  go_wp2
  go_ret
  exact ⟨ret_int (a := -(c + 1) + 1) (by omega), rfl⟩
theorem abs_pos (c : Int) (h : 0 ≤ c) (h0 : c ≤ 9223372036854775807) (w : World) :
    Calls Try.prog 7 #[.int .i64 c] w fun e w' => e = .returned (.int .u64 c) ∧ w' = w := by
  go_enter Try.func7, Try.ntmps7
  go_wp2
  go_ret
  exact ⟨rfl, rfl⟩
/-- Figure.Sign of a figure held in 64 bits: below, at, above zero. -/
theorem sign_neg (c x : Int) (h : c < 0) (w : World) :
    Calls Try.prog 6 #[.agg #[.int .i64 c, .int .i32 x, .pointer none]] w fun e w' =>
      e = .returned (.int .i64 (-1)) ∧ ∃ c1 : Array Value, w' = w.alloc (.cells c1 24) := by
  go_enter Try.func6, Try.ntmps6
  go_wp2
  go_ret
  exact ⟨rfl, _, rfl⟩
theorem sign_zero (x : Int) (w : World) :
    Calls Try.prog 6 #[.agg #[.int .i64 0, .int .i32 x, .pointer none]] w fun e w' =>
      e = .returned (.int .i64 0) ∧ ∃ c1 : Array Value, w' = w.alloc (.cells c1 24) := by
  go_enter Try.func6, Try.ntmps6
  go_wp2
  go_ret
  exact ⟨rfl, _, rfl⟩
theorem sign_pos (c x : Int) (h : 0 < c) (w : World) :
    Calls Try.prog 6 #[.agg #[.int .i64 c, .int .i32 x, .pointer none]] w fun e w' =>
      e = .returned (.int .i64 1) ∧ ∃ c1 : Array Value, w' = w.alloc (.cells c1 24) := by
  go_enter Try.func6, Try.ntmps6
  go_wp2
  go_ret
  exact ⟨rfl, _, rfl⟩

/-! ### STEP 1: THE WALK: the Go text returns true. 'Grown w w'': the world has at most new blocks (Derived/RowKit3.lean). Part the cases AHEAD of 'go_enter' where a test parts the walk; take each callee by a contract of your own. -/
theorem walk (a0 : Int) (a1 : Int) (w0 : (Lit.int .i64 a0).wf = true) (w1 : (Lit.int .i32 a1).wf = true) (w : World) :
    Calls Try.prog 3 #[.int .i64 a0, .int .i32 a1] w fun e w' => e = .returned (.bool true) ∧ Grown w w' := by
  have hb := bounds_i64 w0
  have hb2 := bounds_i32 w1
  by_cases h1 : a0 = -9223372036854775808
  · subst h1
    go_enter Try.func3, Try.ntmps3
    go_wp2
    go_ret
    exact ⟨rfl, Grown.refl _⟩
  · by_cases h2 : a0 < 0
    · go_enter Try.func3, Try.ntmps3
      go_wp2_with (first | (go_at_call 5; refine (newfig _ _ _).mono ?_; rintro e w' ⟨rfl, c1, rfl⟩) | (go_at_call 6; refine (sign_neg _ _ (by omega) _).mono ?_; rintro e w' ⟨rfl, c3, rfl⟩) | (go_at_call 7; refine (abs_neg _ (by omega) (by omega) _).mono ?_; rintro e w' ⟨rfl, rfl⟩))
      go_ret
      exact ⟨rfl, by repeat (first | exact Grown.refl _ | apply Grown.drew | apply Grown.alloc)⟩
    · by_cases h3 : a0 = 0
      · subst h3
        go_enter Try.func3, Try.ntmps3
        go_wp2_with (first | (go_at_call 5; refine (newfig _ _ _).mono ?_; rintro e w' ⟨rfl, c1, rfl⟩) | (go_at_call 6; refine (sign_zero _ _).mono ?_; rintro e w' ⟨rfl, c3, rfl⟩) | (go_at_call 7; refine (abs_pos _ (by omega) (by omega) _).mono ?_; rintro e w' ⟨rfl, rfl⟩))
        go_ret
        exact ⟨rfl, by repeat (first | exact Grown.refl _ | apply Grown.drew | apply Grown.alloc)⟩
      · have h4 : 0 < a0 := by omega
        go_enter Try.func3, Try.ntmps3
        go_wp2_with (first | (go_at_call 5; refine (newfig _ _ _).mono ?_; rintro e w' ⟨rfl, c1, rfl⟩) | (go_at_call 6; refine (sign_pos _ _ (by omega) _).mono ?_; rintro e w' ⟨rfl, c3, rfl⟩) | (go_at_call 7; refine (abs_pos _ (by omega) (by omega) _).mono ?_; rintro e w' ⟨rfl, rfl⟩))
        go_ret
        exact ⟨rfl, by repeat (first | exact Grown.refl _ | apply Grown.drew | apply Grown.alloc)⟩

/-! ### THE ROW's STEP: WRITTEN OUT: LEAVE IT -/
set_option maxRecDepth 100000 in
theorem lifted (os : Os) (started : os.Started) (H : Type) (enc : TypeId × Value → H) :
    ReturnsInHanded {} Try.checked os 3 .any (Rows.fnFigureSignTimesMagnitudeIsCoefficientSpec.pre6 enc Try.prog Try.f3 Rows.fnFigureSignTimesMagnitudeIsCoefficientRow.domain false) (Rows.fnFigureSignTimesMagnitudeIsCoefficientSpec.post enc Try.prog Try.f3 false true false false) := by
  refine returnsInHanded_of_change (C := Try.checked) own started (by kernel_rfl) Try.func3
    (ChangeSpec.witness6 (enc := enc) (C := Try.checked) false ⟨#[], #[.int .i64 0, .int .i32 0], []⟩ 8 (by kernel_rfl) (by kernel_rfl) (by kernel_rfl) (by kernel_rfl)) ?_
  intro W base args ds gs before hval0 hW hcnd _
  have hval : ∀ (j : Nat) t v, Try.f3.params[j]? = some t → args[j]? = some v → Value.okWide Try.prog W .any base t v := hval0
  have hW' := hW
  obtain ⟨p, q, hA0, hV, rfl, hfz, hnd⟩ := hW
  have hA : DataW.TrodAll enc Try.prog W 0 (fun _ => true) true Try.f3.params.toList args.toList ds p := hA0
  rw [Try.params3] at hA hval
  obtain ⟨v0, vs0, d0, ds0, p0, q0, hargs, rfl, rfl, h0, r0⟩ := trodAll_cons hA
  obtain ⟨v1, vs1, d1, ds1, p1, q1, rfl, rfl, rfl, h1, r1⟩ := trodAll_cons r0
  obtain ⟨rfl, rfl, rfl⟩ := trodAll_nil r1
  obtain rfl : args = #[v0, v1] := by cases args; simp_all
  obtain ⟨rfl, rfl⟩ := trodVars_none hV
  obtain ⟨a0, rfl, rfl, rfl, w0⟩ := open_int Try.underlying2 (hval 0 2 v0 rfl rfl) h0
  obtain ⟨a1, rfl, rfl, rfl, w1⟩ := open_int Try.underlying21 (hval 1 21 v1 rfl rfl) h1
  clear hA0 hval0
  simp only [List.append_nil] at hW'
  refine (walk a0 a1 w0 w1 W).mono fun e W' ⟨he, hg⟩ => ?_
  subst he
  exact ⟨_, rfl, post_of_same (pa := []) (pv := []) hW' (fun _ _ _ => (trodAll_cons_mk (shut_bool Try.underlying4 _) trodAll_mk0)) (fun sp _ => (trodAll_cons_mk (shut_int Try.underlying2 w0) (trodAll_cons_mk (shut_int Try.underlying21 w1) trodAll_mk0))) (fun _ _ => rfl) rfl
    (hg.frame _) hg.2.1 (ok_one (by kernel_rfl) rfl (okWide_bool_mk Try.underlying4 _))⟩

theorem over : Rows.fnFigureSignTimesMagnitudeIsCoefficientRow.holds Try.pinned (OpenSpec.ofChange Rows.fnFigureSignTimesMagnitudeIsCoefficientSpec) :=
  OpenClaim.holds_of_wide 3 Try.f3 rfl rfl rfl rfl rfl rfl rfl ⟨rfl, rfl, rfl, rfl, rfl⟩ rfl rfl rfl rfl rfl (by kernel_rfl) Try.func3 (by kernel_rfl)
    (of_decide_eq_true (by kernel_rfl)) (by unfold Func.isWrapper; first | (rw [if_pos (by decide +kernel)]; kernel_rfl) | (rw [if_neg (by decide +kernel)]; exact ⟨rfl, rfl⟩))
    (fun os started H enc _ => lifted os started H enc)

/-- ████ THE STATEMENT ████ -/
theorem proved : Rows.FnFigureSignTimesMagnitudeIsCoefficientSaid :=
  over
#print axioms proved
end Go.Proofs.Qxb6619044a.fnFigureSignTimesMagnitudeIsCoefficient
