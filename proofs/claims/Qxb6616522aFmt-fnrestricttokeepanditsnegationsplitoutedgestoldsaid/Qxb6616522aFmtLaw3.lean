/-
  THE WALK OF FnEdgesCountsEachAddedEdgeOnce.
-/
import Derived.Test.Qxb6616522aFmtBuild
namespace Go.Proofs.Qxb6616522aFmt
open Go.RowKit

/-- How many of the first k edges join two vertices. -/
def twos (U V : Nat → Int) : Nat → Nat
  | 0 => 0
  | k + 1 => twos U V k + if U k = V k then 0 else 1
theorem twos_le (U V : Nat → Int) (k : Nat) : twos U V k ≤ k := by
  induction k with
  | zero => exact Nat.le_refl _
  | succ k ih => unfold twos; split <;> omega
theorem len_dir (F T W : Nat → Nat) (N : Nat) : (arcs true (fun _ => true) F T W N).length = N := by
  induction N with
  | zero => rfl
  | succ N ih => rw [arcs_dir, List.length_append, ih]; rfl
theorem len_undir {F T W : Nat → Nat} {U V : Nat → Int} {N : Nat} (h : ∀ k, k < N → (F k = T k ↔ U k = V k)) : (arcs false (fun _ => true) F T W N).length = N + twos U V N := by
  induction N with
  | zero => rfl
  | succ N ih =>
    have ih := ih fun k hk => h k (by omega)
    have hN := h N (by omega)
    by_cases e : F N = T N
    · rw [arcs_same _ _ _ _ e, List.length_append, ih]; simp [twos, hN.1 e]; omega
    · rw [arcs_both _ _ _ _ e, List.length_append, List.length_append, ih]
      have : ¬ U N = V N := fun h => e (hN.2 h)
      simp [twos, this]; omega
theorem Built.same {w : World} {n N M bg bi bs bt bw : Nat} {I U V : Nat → Int} {W F T : Nat → Nat} {A : List Arc} (h : Built w n N M bg bi bs bt bw I U V W F T A) : ∀ k, k < N → (F k = T k ↔ U k = V k) := fun k hk => by
  obtain ⟨h1, h2⟩ := h.sF k hk
  obtain ⟨h3, h4⟩ := h.sT k hk
  rw [h2, h4]
  exact ⟨fun e => by rw [e], fun e => asc_inj h.asc h1 h3 e⟩
theorem Built.drewN {w : World} {n N M bg bi bs bt bw : Nat} {I U V : Nat → Int} {W F T : Nat → Nat} {A : List Arc} (h : Built w n N M bg bi bs bt bw I U V W F T A) (q : Nat) : Built (w.drewN q) n N M bg bi bs bt bw I U V W F T A :=
  ⟨h.g0, h.g1, h.g2, h.g3, h.g4, h.lbg, h.lbi, h.lbs, h.lbt, h.lbw, h.ids, h.start, h.tgt, h.wgt, h.asc, h.sF, h.sT, h.cov, h.hn, h.hM⟩
theorem Built.spec {w0 w : World} {n N M bg bi bs bt bw be oe : Nat} {ea : Option Addr} {I U V : Nat → Int} {W F T : Nat → Nat} {A : List Arc} (h : Built w n N M bg bi bs bt bw I U V W F T A) (E : Edges w0 N ea be oe U V W) (hb : Below w0.heap.size w0 w) : Spec w n N bi bs bt bw be oe I U V W F T A where
  lbi := h.lbi
  lbs := h.lbs
  lbt := h.lbt
  lbw := h.lbw
  ids := h.ids
  start := h.start
  tgt := h.tgt
  wgt := h.wgt
  lbe := fun h0 => Nat.lt_of_lt_of_le (E.lbe h0) hb.size
  eU := fun k hk => (hb.cell (p := ⟨be, oe + k * 3, none⟩) (E.lbe (by omega))).trans (E.eU k hk)
  eV := fun k hk => (hb.cell (p := ⟨be, oe + k * 3 + 1, none⟩) (E.lbe (by omega))).trans (E.eV k hk)
  eW := fun k hk => (hb.cell (p := ⟨be, oe + k * 3 + 2, none⟩) (E.lbe (by omega))).trans (E.eW k hk)
  asc := h.asc
  sF := h.sF
  sT := h.sT

theorem bytes6_at (ea : Option Addr) (N ce : Nat) (d : Bool) (w : World) : Calls Tryf.prog 6 #[.slice ea N ce, .bool d] w fun e w' => e = .returned (.bool (decide (N ≤ 1048576))) ∧ w' = w := by
  by_cases h : N ≤ 1048576
  · have h1 : ¬ ((1048576 : Int) < N) := by omega
    have h2 : decide (1048576 < N) = false := by simp; omega
    go_enter Tryf.func6, Tryf.ntmps6
    go_wp2
    go_ret
    exact ⟨by simp, rfl⟩
  · have h1 : (1048576 : Int) < N := by omega
    have h2 : decide (1048576 < N) = true := by simp; omega
    go_enter Tryf.func6, Tryf.ntmps6
    go_wp2
    go_ret
    exact ⟨by simp [h], rfl⟩

set_option maxHeartbeats 2000000 in
set_option maxRecDepth 100000 in
theorem law3_at (w : World) (N be oe ce : Nat) (ea : Option Addr) (U V : Nat → Int) (W : Nat → Nat) (directed : Bool) (E : Edges w N ea be oe U V W) :
    Calls Tryf.prog 3 #[.slice ea N ce, .bool directed] w fun e w' => e = .returned (.bool true) ∧ Below w.heap.size w w' := by
  have HE : Hid (Edges w N ea be oe U V W) := E
  clear E
  by_cases hN : N ≤ 65536
  case neg =>
    have h1 : ¬ ((N : Int) ≤ 65536) := by omega
    have h2 : (65536 : Int) < N := by omega
    by_cases hB : N ≤ 1048576
    · have hd : decide (N ≤ 1048576) = true := by simp [hB]
      go_enter Tryf.func3, Tryf.ntmps3
      go_wp2_with (go_at_call 6; refine (bytes6_at ea N ce directed w).mono ?_; rintro e w' ⟨rfl, rfl⟩)
      go_ret
      exact ⟨rfl, Below.refl _ _⟩
    · have hd : decide (N ≤ 1048576) = false := by simp [hB]
      go_enter Tryf.func3, Tryf.ntmps3
      go_wp2_with (go_at_call 6; refine (bytes6_at ea N ce directed w).mono ?_; rintro e w' ⟨rfl, rfl⟩)
      go_ret
      exact ⟨rfl, Below.refl _ _⟩
  case pos =>
    have h1 : ¬ ((65536 : Int) < N) := by omega
    have hd : decide (N ≤ 1048576) = true := by simp; omega
    go_enter Tryf.func3, Tryf.ntmps3
    go_wp2_with (go_at_call 6; refine (bytes6_at ea N ce directed w).mono ?_; rintro e w' ⟨rfl, rfl⟩)
    go_loopw [5] (fun v wr => ∃ j : Nat, v = .int .i64 j ∧ j ≤ N ∧ (∀ k, k < j → 0 ≤ U k ∧ 0 ≤ V k) ∧ wr = w') (fun v _ => N - (intOf v).toNat)
    case atStart => exact ⟨0, rfl, Nat.zero_le _, fun k hk => by omega, rfl⟩
    case round =>
      obtain ⟨j, rfl, hj, hpos, rfl⟩ := hrel
      have HPOS : Hid (∀ k, k < j → 0 ≤ U k ∧ 0 ≤ V k) := hpos
      clear hpos
      by_cases hlt : j < N
      · have hlt' : (j : Int) < N := by omega
        obtain rfl := HE.out.at_ (by omega)
        have k0 := HE.out.eU j hlt
        have k1 := HE.out.eV j hlt
        by_cases hu : U j < 0
        · have hu' : decide (U j < 0) = true := by simp [hu]
          go_wp2
          go_ret
          exact ⟨rfl, Below.refl _ _⟩
        · have hu' : decide (U j < 0) = false := by simp; omega
          by_cases hv : V j < 0
          · have hv' : decide (V j < 0) = true := by simp [hv]
            go_wp2
            go_ret
            exact ⟨rfl, Below.refl _ _⟩
          · have hv' : decide (V j < 0) = false := by simp; omega
            go_wp2
            go_roundw
            case rel => exact ⟨j + 1, by go_num, hlt, fun k hk => by
              rcases Nat.lt_or_ge k j with h | h
              · exact HPOS.out k h
              · obtain rfl : k = j := by omega
                exact ⟨by omega, by omega⟩, by first | rfl | trivial⟩
            case measure => simp [intOf]; omega
      · have hge : ¬ ((j : Int) < N) := by omega
        obtain rfl : N = j := by omega
        obtain ⟨w0, hw0⟩ : ∃ w0, w0 = wr := ⟨_, rfl⟩
        subst hw0
        go_wp2_with (go_at_call 7; refine (build_at _ N be oe ce ea U V W directed HE.out hN HPOS.out).mono ?_)
        rintro e w1 hpost
        obtain ⟨n, M, bg, bi, bs, bt, bw, I, F, T, rfl, hbw, hbt⟩ := hpost
        have g4 := hbt.g4
        have HBT : Hid (Below w0.heap.size w0 w1 ∧ Built w1 n N M bg bi bs bt bw I U V W F T (arcs directed (fun _ => true) F T W N)) := ⟨hbw, hbt⟩
        have hMl := hbt.hM
        have HMN : Hid (M = (arcs directed (fun _ => true) F T W N).length) := hMl
        clear hbw hbt hge
        cases directed with
        | true =>
          rw [len_dir] at hMl
          subst hMl
          have b0 := (HBT.out.2.drewN 0).g0
          have b1 := (HBT.out.2.drewN 0).g1
          have b2 := (HBT.out.2.drewN 0).g2
          have b3 := (HBT.out.2.drewN 0).g3
          go_wp2_with (go_at_call 8; refine (edges_at bg M _ g4).mono ?_; rintro e w' ⟨rfl, rfl⟩)
          go_wp2_with (go_at_call 9; refine (parts_at bg _ _ _ _ _ _ _ _ _ _ _ _ _ b0 b1 b2 b3).mono ?_; rintro e w2 ⟨rfl, q2, rfl⟩)
          have hspec := ((HBT.out.2.drewN 0).drewN q2).spec HE.out (below_drewN (below_drewN HBT.out.1 0) q2)
          go_wp2_with (go_at_call 10; refine (check_at _ n M bi bs bt bw be oe n (n + 1) _ _ ce _ I U V W F T true (fun _ => true) _ hspec rfl HMN.out HBT.out.2.hn hN HBT.out.2.cov ea HE.out.at_ (.slice none 0 0) false (fun wr _ i _ => kept_all i _ wr)).mono ?_; rintro e w3 ⟨rfl, hb3⟩)
          go_ret
          exact ⟨rfl, (below_drewN (below_drewN HBT.out.1 0) q2).trans (hb3.mono (below_drewN (below_drewN HBT.out.1 0) q2).size)⟩
        | false =>
          have hsame := HBT.out.2.same
          rw [len_undir hsame] at hMl
          clear hsame
          have hMi : (M : Int) = (N : Int) + (twos U V N : Int) := by omega
          clear hMl
          go_wp2_with (go_at_call 8; refine (edges_at bg N _ g4).mono ?_; rintro e w' ⟨rfl, rfl⟩)
          go_loopw [7, 8] (fun s v wr2 => ∃ j : Nat, s = .int .i64 ((N : Int) + (twos U V j : Int)) ∧ v = .int .i64 j ∧ j ≤ N ∧ Below w0.heap.size w0 wr2 ∧ Built wr2 n N M bg bi bs bt bw I U V W F T (arcs false (fun _ => true) F T W N)) (fun _ v _ => N - (intOf v).toNat)
          case atStart => exact ⟨0, by simp [twos], rfl, Nat.zero_le _, HBT.out⟩
          case round =>
            obtain ⟨j, rfl, rfl, hj2, hbw2, hbt2⟩ := hrel
            clear HBT
            have HBT : Hid (Below w0.heap.size w0 wr ∧ Built wr n N M bg bi bs bt bw I U V W F T (arcs false (fun _ => true) F T W N)) := ⟨hbw2, hbt2⟩
            clear hbw2 hbt2 g4
            have htw := twos_le U V j
            by_cases hlt2 : j < N
            · have hlt' : (j : Int) < N := by omega
              obtain rfl := HE.out.at_ (by omega)
              have k0 := (HBT.out.1.cell (p := ⟨be, oe + j * 3, none⟩) (HE.out.lbe (by omega))).trans (HE.out.eU j hlt2)
              have k1 := (HBT.out.1.cell (p := ⟨be, oe + j * 3 + 1, none⟩) (HE.out.lbe (by omega))).trans (HE.out.eV j hlt2)
              have htb : (twos U V j : Int) ≤ 65536 := by omega
              by_cases huv : U j = V j
              · have hq : (U j != V j) = false := by simp [huv]
                have hT : Hid (twos U V (j + 1) = twos U V j) := by show twos U V (j + 1) = twos U V j; simp [twos, huv]
                clear huv
                go_wp2
                go_quiet (fail)
                go_wp2
                go_roundw
                case rel => exact ⟨j + 1, by rw [hT.out], by go_num, hlt2, below_drewN HBT.out.1 _, HBT.out.2.drewN _⟩
                case measure => simp [intOf]; omega
              · have hq : (U j != V j) = true := by simp [huv]
                have hT : Hid (twos U V (j + 1) = twos U V j + 1) := by show twos U V (j + 1) = twos U V j + 1; simp [twos, huv]
                clear huv
                go_wp2
                go_quiet (fail)
                go_wp2
                go_roundw
                case rel => exact ⟨j + 1, by rw [hT.out]; go_num, by go_num, hlt2, below_drewN HBT.out.1 _, HBT.out.2.drewN _⟩
                case measure => simp [intOf]; omega
            · have hge : ¬ ((j : Int) < N) := by omega
              obtain rfl : N = j := by omega
              have htb : (twos U V N : Int) ≤ 65536 := by omega
              have b0 := HBT.out.2.g0
              have b1 := HBT.out.2.g1
              have b2 := HBT.out.2.g2
              have b3 := HBT.out.2.g3
              go_wp2_with (go_at_call 9; refine (parts_at bg _ _ _ _ _ _ _ _ _ _ _ _ _ b0 b1 b2 b3).mono ?_; rintro e w2 ⟨rfl, q2, rfl⟩)
              have hspec := (HBT.out.2.drewN q2).spec HE.out (below_drewN HBT.out.1 q2)
              go_wp2_with (go_at_call 10; refine (check_at _ n N bi bs bt bw be oe n (n + 1) _ _ ce _ I U V W F T false (fun _ => true) _ hspec rfl HMN.out HBT.out.2.hn hN HBT.out.2.cov ea HE.out.at_ (.slice none 0 0) false (fun wr _ i _ => kept_all i _ wr)).mono ?_; rintro e w3 ⟨rfl, hb3⟩)
              go_ret
              exact ⟨rfl, (below_drewN HBT.out.1 q2).trans (hb3.mono (below_drewN HBT.out.1 q2).size)⟩
end Go.Proofs.Qxb6616522aFmt
