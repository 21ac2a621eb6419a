/-
  THE PROOF OF 'Rows.FnSignOfSignedFigureIsItsFlagSaid' ('example.com/tuoguan/tuoguan/zzlaws_internal_book_b1.FnSignOfSignedFigureIsItsFlag'), WRITTEN BY PROGRAM (proof-skeleton.mjs) off the guide's own print for that function. Not trusted: Lean checks it.
-/
import Derived.Test.Qxb6619044aRows
import Derived.WalkKit
import Derived.ProofKit
import Derived.OpenShut
import Derived.ShutString
namespace Go.Proofs.Qxb6619044a.fnSignOfSignedFigureIsItsFlag
open Go.ChangeShapes Go.WideShapes Go.ChangeAt Go.RowKit
open Go.ChangeMaps (open_string shut_string)
set_option linter.unusedVariables false      -- a walk need not use every 'w<i>' (that an integer argument fits its kind)

theorem own : ownKnob Try.prog.godebug = none := by kernel_rfl

/-! ### THE CALLEES' CONTRACTS -/
/-- signedFigure, refused. -/
theorem signed_no (m : Int) (n : Bool) (p : Int) (h : 9223372036854775807 < m) (w : World) :
    Calls Try.prog 11 #[.int .u64 m, .bool n, .int .i32 p] w fun e w' =>
      e = .returned (.tuple #[.agg #[.int .i64 0, .int .i32 0, .pointer none], .bool false]) ∧ ∃ c1 : Array Value, w' = w.alloc (.cells c1 24) := by
  go_enter Try.func11, Try.ntmps11
  go_wp2
  simp [bodyPost, results, Try.results11, go_sem]
  exact ⟨_, rfl⟩
/-- signedFigure, accepted, not negative. -/
theorem signed_pos (m p : Int) (h0 : 0 ≤ m) (h : m ≤ 9223372036854775807) (w : World) :
    Calls Try.prog 11 #[.int .u64 m, .bool false, .int .i32 p] w fun e w' =>
      ∃ x : Int, e = .returned (.tuple #[.agg #[.int .i64 m, .int .i32 x, .pointer none], .bool true]) ∧ ∃ c1 : Array Value, w' = w.alloc (.cells c1 24) := by
  go_enter Try.func11, Try.ntmps11
  go_wp2
  simp [bodyPost, results, Try.results11, go_sem]
  exact ⟨_, rfl⟩
/-- signedFigure, accepted, negative. -/
theorem signed_neg (m p : Int) (h0 : 0 ≤ m) (h : m ≤ 9223372036854775807) (w : World) :
    Calls Try.prog 11 #[.int .u64 m, .bool true, .int .i32 p] w fun e w' =>
      ∃ x : Int, e = .returned (.tuple #[.agg #[.int .i64 (-m), .int .i32 x, .pointer none], .bool true]) ∧ ∃ c1 : Array Value, w' = w.alloc (.cells c1 24) := by
  go_enter Try.func11, Try.ntmps11
  go_wp2
  simp [bodyPost, results, Try.results11, go_sem]
  exact ⟨_, rfl⟩
/-- ZZSignedFigure hands on what signedFigure answers. -/
theorem zzsigned (m : Int) (n : Bool) (p c : Int) (ok : Bool) (w : World)
    (hc : ∀ w : World, Calls Try.prog 11 #[.int .u64 m, .bool n, .int .i32 p] w fun e w' =>
      ∃ x : Int, e = .returned (.tuple #[.agg #[.int .i64 c, .int .i32 x, .pointer none], .bool ok]) ∧ ∃ c1 : Array Value, w' = w.alloc (.cells c1 24)) :
    Calls Try.prog 8 #[.int .u64 m, .bool n, .int .i32 p] w fun e w' =>
      ∃ x : Int, e = .returned (.tuple #[.agg #[.int .i64 c, .int .i32 x, .pointer none], .bool ok]) ∧ ∃ c1 c2 : Array Value, w' = (w.alloc (.cells c1 24)).alloc (.cells c2 24) := by
  have H : Hid (∀ w : World, Calls Try.prog 11 #[.int .u64 m, .bool n, .int .i32 p] w fun e w' => ∃ x : Int, e = .returned (.tuple #[.agg #[.int .i64 c, .int .i32 x, .pointer none], .bool ok]) ∧ ∃ c1 : Array Value, w' = w.alloc (.cells c1 24)) := hc
  clear hc
  go_enter Try.func8, Try.ntmps8
  go_wp2_with (go_at_call 11; refine (H.out _).mono ?_; rintro e w' ⟨x, rfl, c1, rfl⟩)
  simp [bodyPost, results, Try.results8, go_sem]
  exact ⟨_, _, rfl⟩
/-- Figure.Sign of a figure held in 64 bits: below, at, above zero. -/
theorem sign_neg (c x : Int) (h : c < 0) (w : World) :
    Calls Try.prog 6 #[.agg #[.int .i64 c, .int .i32 x, .pointer none]] w fun e w' =>
      e = .returned (.int .i64 (-1)) ∧ ∃ c1 : Array Value, w' = w.alloc (.cells c1 24) := by
  go_enter Try.func6, Try.ntmps6
  go_wp2
  go_ret
  exact ⟨rfl, _, rfl⟩
theorem sign_zero (x : Int) (w : World) :
    Calls Try.prog 6 #[.agg #[.int .i64 0, .int .i32 x, .pointer none]] w fun e w' =>
      e = .returned (.int .i64 0) ∧ ∃ c1 : Array Value, w' = w.alloc (.cells c1 24) := by
  go_enter Try.func6, Try.ntmps6
  go_wp2
  go_ret
  exact ⟨rfl, _, rfl⟩
theorem sign_pos (c x : Int) (h : 0 < c) (w : World) :
    Calls Try.prog 6 #[.agg #[.int .i64 c, .int .i32 x, .pointer none]] w fun e w' =>
      e = .returned (.int .i64 1) ∧ ∃ c1 : Array Value, w' = w.alloc (.cells c1 24) := by
  go_enter Try.func6, Try.ntmps6
  go_wp2
  go_ret
  exact ⟨rfl, _, rfl⟩

/-! ### STEP 1: THE WALK: the Go text returns true. 'Grown w w'': the world has at most new blocks (Derived/RowKit3.lean). Part the cases AHEAD of 'go_enter' where a test parts the walk; take each callee by a contract of your own. -/
theorem walk (a0 : Int) (a1 : Bool) (a2 : Int) (w0 : (Lit.int .u64 a0).wf = true) (w2 : (Lit.int .i32 a2).wf = true) (w : World) :
    Calls Try.prog 4 #[.int .u64 a0, .bool a1, .int .i32 a2] w fun e w' => e = .returned (.bool true) ∧ Grown w w' := by
  have hb := bounds_u64 w0
  have hb2 := bounds_i32 w2
  by_cases h1 : 9223372036854775807 < a0
  · go_enter Try.func4, Try.ntmps4
    go_wp2_with (first | (go_at_call 8; refine (zzsigned _ _ _ 0 false _ (fun w => (signed_no a0 a1 a2 h1 w).mono fun e w' h => ⟨0, h⟩)).mono ?_; rintro e w' ⟨x, rfl, c1, c2, rfl⟩) | (go_at_call 6; refine (sign_zero _ _).mono ?_; rintro e w' ⟨rfl, c3, rfl⟩))
    go_ret
    exact ⟨rfl, by repeat (first | exact Grown.refl _ | apply Grown.drew | apply Grown.alloc)⟩
  · by_cases h2 : a0 = 0
    · subst h2
      cases a1
      · go_enter Try.func4, Try.ntmps4
        go_wp2_with (first | (go_at_call 8; refine (zzsigned _ _ _ 0 true _ (fun w => signed_pos 0 a2 (by omega) (by omega) w)).mono ?_; rintro e w' ⟨x, rfl, c1, c2, rfl⟩) | (go_at_call 6; refine (sign_zero _ _).mono ?_; rintro e w' ⟨rfl, c3, rfl⟩))
        go_ret
        exact ⟨rfl, by repeat (first | exact Grown.refl _ | apply Grown.drew | apply Grown.alloc)⟩
      · go_enter Try.func4, Try.ntmps4
        go_wp2_with (first | (go_at_call 8; refine (zzsigned _ _ _ 0 true _ (fun w => signed_neg 0 a2 (by omega) (by omega) w)).mono ?_; rintro e w' ⟨x, rfl, c1, c2, rfl⟩) | (go_at_call 6; refine (sign_zero _ _).mono ?_; rintro e w' ⟨rfl, c3, rfl⟩))
        go_ret
        exact ⟨rfl, by repeat (first | exact Grown.refl _ | apply Grown.drew | apply Grown.alloc)⟩
    · have h3 : 0 < a0 := by omega
      cases a1
      · go_enter Try.func4, Try.ntmps4
        go_wp2_with (first | (go_at_call 8; refine (zzsigned _ _ _ a0 true _ (fun w => signed_pos a0 a2 (by omega) (by omega) w)).mono ?_; rintro e w' ⟨x, rfl, c1, c2, rfl⟩) | (go_at_call 6; refine (sign_pos _ _ (by omega) _).mono ?_; rintro e w' ⟨rfl, c3, rfl⟩))
        go_ret
        exact ⟨rfl, by repeat (first | exact Grown.refl _ | apply Grown.drew | apply Grown.alloc)⟩
      · go_enter Try.func4, Try.ntmps4
        go_wp2_with (first | (go_at_call 8; refine (zzsigned _ _ _ (-a0) true _ (fun w => signed_neg a0 a2 (by omega) (by omega) w)).mono ?_; rintro e w' ⟨x, rfl, c1, c2, rfl⟩) | (go_at_call 6; refine (sign_neg _ _ (by omega) _).mono ?_; rintro e w' ⟨rfl, c3, rfl⟩))
        go_ret
        exact ⟨rfl, by repeat (first | exact Grown.refl _ | apply Grown.drew | apply Grown.alloc)⟩

/-! ### THE ROW's STEP: WRITTEN OUT: LEAVE IT -/
set_option maxRecDepth 100000 in
theorem lifted (os : Os) (started : os.Started) (H : Type) (enc : TypeId × Value → H) :
    ReturnsInHanded {} Try.checked os 4 .any (Rows.fnSignOfSignedFigureIsItsFlagSpec.pre6 enc Try.prog Try.f4 Rows.fnSignOfSignedFigureIsItsFlagRow.domain false) (Rows.fnSignOfSignedFigureIsItsFlagSpec.post enc Try.prog Try.f4 false true false false) := by
  refine returnsInHanded_of_change (C := Try.checked) own started (by kernel_rfl) Try.func4
    (ChangeSpec.witness6 (enc := enc) (C := Try.checked) false ⟨#[], #[.int .u64 0, .bool false, .int .i32 0], []⟩ 8 (by kernel_rfl) (by kernel_rfl) (by kernel_rfl) (by kernel_rfl)) ?_
  intro W base args ds gs before hval0 hW hcnd _
  have hval : ∀ (j : Nat) t v, Try.f4.params[j]? = some t → args[j]? = some v → Value.okWide Try.prog W .any base t v := hval0
  have hW' := hW
  obtain ⟨p, q, hA0, hV, rfl, hfz, hnd⟩ := hW
  have hA : DataW.TrodAll enc Try.prog W 0 (fun _ => true) true Try.f4.params.toList args.toList ds p := hA0
  rw [Try.params4] at hA hval
  obtain ⟨v0, vs0, d0, ds0, p0, q0, hargs, rfl, rfl, h0, r0⟩ := trodAll_cons hA
  obtain ⟨v1, vs1, d1, ds1, p1, q1, rfl, rfl, rfl, h1, r1⟩ := trodAll_cons r0
  obtain ⟨v2, vs2, d2, ds2, p2, q2, rfl, rfl, rfl, h2, r2⟩ := trodAll_cons r1
  obtain ⟨rfl, rfl, rfl⟩ := trodAll_nil r2
  obtain rfl : args = #[v0, v1, v2] := by cases args; simp_all
  obtain ⟨rfl, rfl⟩ := trodVars_none hV
  obtain ⟨a0, rfl, rfl, rfl, w0⟩ := open_int Try.underlying27 (hval 0 27 v0 rfl rfl) h0
  obtain ⟨a1, rfl, rfl, rfl⟩ := open_bool Try.underlying4 (hval 1 4 v1 rfl rfl) h1
  obtain ⟨a2, rfl, rfl, rfl, w2⟩ := open_int Try.underlying21 (hval 2 21 v2 rfl rfl) h2
  clear hA0 hval0
  simp only [List.append_nil] at hW'
  refine (walk a0 a1 a2 w0 w2 W).mono fun e W' ⟨he, hg⟩ => ?_
  subst he
  exact ⟨_, rfl, post_of_same (pa := []) (pv := []) hW' (fun _ _ _ => (trodAll_cons_mk (shut_bool Try.underlying4 _) trodAll_mk0)) (fun sp _ => (trodAll_cons_mk (shut_int Try.underlying27 w0) (trodAll_cons_mk (shut_bool Try.underlying4 _) (trodAll_cons_mk (shut_int Try.underlying21 w2) trodAll_mk0)))) (fun _ _ => rfl) rfl
    (hg.frame _) hg.2.1 (ok_one (by kernel_rfl) rfl (okWide_bool_mk Try.underlying4 _))⟩

theorem over : Rows.fnSignOfSignedFigureIsItsFlagRow.holds Try.pinned (OpenSpec.ofChange Rows.fnSignOfSignedFigureIsItsFlagSpec) :=
  OpenClaim.holds_of_wide 4 Try.f4 rfl rfl rfl rfl rfl rfl rfl ⟨rfl, rfl, rfl, rfl, rfl⟩ rfl rfl rfl rfl rfl (by kernel_rfl) Try.func4 (by kernel_rfl)
    (of_decide_eq_true (by kernel_rfl)) (by unfold Func.isWrapper; first | (rw [if_pos (by decide +kernel)]; kernel_rfl) | (rw [if_neg (by decide +kernel)]; exact ⟨rfl, rfl⟩))
    (fun os started H enc _ => lifted os started H enc)

/-- ████ THE STATEMENT ████ -/
theorem proved : Rows.FnSignOfSignedFigureIsItsFlagSaid :=
  over
#print axioms proved
end Go.Proofs.Qxb6619044a.fnSignOfSignedFigureIsItsFlag
