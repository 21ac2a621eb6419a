/-
  THE WALK OF FnRestrictKeepsOutEdgesOfKeptVertices.
-/
import Derived.Test.Qxb6616522aFmtRmask
import Derived.Laws.CopyOwn
namespace Go.Proofs.Qxb6616522aFmt
open Go.RowKit

theorem bytes11_at (ea ko : Option Addr) (N ce m kc : Nat) (d : Bool) (w : World) : Calls Tryf.prog 11 #[.slice ea N ce, .bool d, .slice ko m kc] w fun e w' => e = .returned (.bool (decide (N ≤ 1048576) && (decide (m ≤ 1048576) && decide (N + m ≤ 1048576)))) ∧ w' = w := by
  by_cases h : N ≤ 1048576
  · have h1 : ¬ ((1048576 : Int) < N) := by omega
    have h2 : decide (1048576 < N) = false := by simp; omega
    by_cases hm : m ≤ 1048576
    · have h3 : ¬ ((1048576 : Int) < m) := by omega
      have h4 : decide (1048576 < m) = false := by simp; omega
      by_cases hs : N + m ≤ 1048576
      · have h5 : ¬ ((1048576 : Int) < (N : Int) + m) := by omega
        have h6 : decide (1048576 < N + m) = false := by simp; omega
        go_enter Tryf.func11, Tryf.ntmps11
        go_wp2
        go_ret
        exact ⟨by simp, rfl⟩
      · have h5 : (1048576 : Int) < (N : Int) + m := by omega
        have h6 : decide (1048576 < N + m) = true := by simp; omega
        go_enter Tryf.func11, Tryf.ntmps11
        go_wp2
        go_ret
        exact ⟨by simp, rfl⟩
    · have h3 : (1048576 : Int) < m := by omega
      have h4 : decide (1048576 < m) = true := by simp; omega
      go_enter Tryf.func11, Tryf.ntmps11
      go_wp2
      go_ret
      exact ⟨by simp, rfl⟩
  · have h1 : (1048576 : Int) < N := by omega
    have h2 : decide (1048576 < N) = true := by simp; omega
    go_enter Tryf.func11, Tryf.ntmps11
    go_wp2
    go_ret
    exact ⟨by simp [h], rfl⟩
/-- The mask as the argument holds it. -/
structure KeepArg (w : World) (ko : Option Addr) (m kc : Nat) (K : Nat → Bool) : Prop where
  form : (ko = none ∧ m = 0 ∧ kc = 0) ∨ ∃ a, ko = some a ∧ ∀ i, i < m → w.cell? (a.add i) = some (.bool (K i))

set_option maxHeartbeats 2000000 in
set_option maxRecDepth 100000 in
theorem law4_at (w : World) (N be oe ce m kc : Nat) (ea ko : Option Addr) (U V : Nat → Int) (W : Nat → Nat) (K : Nat → Bool) (directed : Bool) (E : Edges w N ea be oe U V W) (hK : KeepArg w ko m kc K) :
    Calls Tryf.prog 4 #[.slice ea N ce, .bool directed, .slice ko m kc] w fun e w' => e = .returned (.bool true) ∧ Below w.heap.size w w' := by
  have HE : Hid (Edges w N ea be oe U V W) := E
  have HKA : Hid (KeepArg w ko m kc K) := hK
  clear E hK
  by_cases hN : N ≤ 32768
  case neg =>
    have h2 : (32768 : Int) < N := by omega
    have h3 : decide (32768 < N) = true := by simp; omega
    cases hB : (decide (N ≤ 1048576) && (decide (m ≤ 1048576) && decide (N + m ≤ 1048576))) with
    | true =>
      go_enter Tryf.func4, Tryf.ntmps4
      go_wp2_with (go_at_call 11; refine (bytes11_at ea ko N ce m kc directed w).mono ?_; rw [hB]; rintro e w' ⟨rfl, rfl⟩)
      go_ret
      exact ⟨rfl, Below.refl _ _⟩
    | false =>
      go_enter Tryf.func4, Tryf.ntmps4
      go_wp2_with (go_at_call 11; refine (bytes11_at ea ko N ce m kc directed w).mono ?_; rw [hB]; rintro e w' ⟨rfl, rfl⟩)
      go_ret
      exact ⟨rfl, Below.refl _ _⟩
  case pos =>
    have h1 : ¬ ((32768 : Int) < N) := by omega
    have h1' : decide (32768 < N) = false := by simp; omega
    by_cases hm : m ≤ 65536
    case neg =>
      have h2 : (65536 : Int) < m := by omega
      have h3 : decide (65536 < m) = true := by simp; omega
      cases hB : (decide (N ≤ 1048576) && (decide (m ≤ 1048576) && decide (N + m ≤ 1048576))) with
      | true =>
        go_enter Tryf.func4, Tryf.ntmps4
        go_wp2_with (go_at_call 11; refine (bytes11_at ea ko N ce m kc directed w).mono ?_; rw [hB]; rintro e w' ⟨rfl, rfl⟩)
        go_ret
        exact ⟨rfl, Below.refl _ _⟩
      | false =>
        go_enter Tryf.func4, Tryf.ntmps4
        go_wp2_with (go_at_call 11; refine (bytes11_at ea ko N ce m kc directed w).mono ?_; rw [hB]; rintro e w' ⟨rfl, rfl⟩)
        go_ret
        exact ⟨rfl, Below.refl _ _⟩
    case pos =>
      have h2 : ¬ ((65536 : Int) < m) := by omega
      have h3 : decide (65536 < m) = false := by simp; omega
      have hB : (decide (N ≤ 1048576) && (decide (m ≤ 1048576) && decide (N + m ≤ 1048576))) = true := by simp; omega
      have HB11 : Hid (Calls Tryf.prog 11 #[.slice ea N ce, .bool directed, .slice ko m kc] w fun e w' => e = .returned (.bool true) ∧ w' = w) := by
        have := bytes11_at ea ko N ce m kc directed w
        rwa [hB] at this
      clear hB
      go_enter Tryf.func4, Tryf.ntmps4
      go_upto_if 27 with (go_at_call 11; refine HB11.out.mono ?_; rintro e w' ⟨rfl, rfl⟩)
      go_cut [2, 7, 27] from 28 to 34 (fun s2 _ _ wx => ∃ ko2 kc2, s2 = .slice ko2 m kc2 ∧ Below w'.heap.size w' wx ∧ Mask wx (.slice ko2 m kc2) m K)
      case first =>
        rcases HKA.out.form with ⟨rfl, rfl, rfl⟩ | ⟨a, rfl, hcells⟩
        · go_wp2
          go_meet
          exact ⟨none, 0, rfl, Below.refl _ _, ⟨none, 0, 0, rfl, fun h => by omega, fun i h => by omega⟩⟩
        · have hmk4 := run_make_row' (P := Tryf.prog) 36 4 (.bool false) 1 Tryf.underlying36 info4 rfl .i64 .i64 m (by omega) (by omega)
          have hsz : (Tryf.prog.info? 4).map (·.size) = some 1 := by
            obtain ⟨i, hi, _, h1, _⟩ := info_parts info4
            rw [hi]; simp [h1]
          obtain ⟨g, hg⟩ : ∃ g, w'.heap.size = g := ⟨_, rfl⟩
          obtain ⟨cur, hcur⟩ : ∃ cur, cur = madeCells #[Value.bool false] m := ⟨_, rfl⟩
          obtain ⟨cs, hcs⟩ : ∃ cs, cs = (List.range m).map fun i => Value.bool (K i) := ⟨_, rfl⟩
          rw [← hcur] at hmk4
          have hcz : cur.size = m := by rw [hcur]; simp [madeCells]
          have hcl : cs.length = Nat.min m m := by rw [hcs]; simp
          have hgb : (w'.alloc (.cells cur 4)).heap[g]? = some (.cells cur 4 (0, 0)) := by
            rw [← hg]
            show (w'.heap.push _)[w'.heap.size]? = _
            rw [Array.getElem?_push, if_pos rfl]
          have hsrc : Hid (∀ j v, cs[j]? = some v → (w'.alloc (.cells cur 4)).cell? (a.add j) = some v) := fun j v hv => by
            have hj : j < m := by have := (List.getElem?_eq_some_iff.1 hv).1; rw [hcl] at this; simpa using this
            have hc := hcells j hj
            rw [((Below.refl w'.heap.size w').alloc (Nat.le_refl _) _).cell (block_lt_of_cell hc), hc, ← hv, hcs]; simp [hj]
          have hone : Hid (∀ v ∈ cs, v.oneCell' = true) := fun v hv => by rw [hcs, List.mem_map] at hv; obtain ⟨_, _, rfl⟩ := hv; rfl
          have HC : Hid (cs = (List.range m).map fun i => Value.bool (K i)) := hcs
          have HCELLS : Hid (∀ i, i < m → w'.cell? (a.add i) = some (.bool (K i))) := hcells
          have hcopy := run_copy_row (P := Tryf.prog) (w'.alloc (.cells cur 4)) 36 36 3 4 g 0 m m a m kc cur 4 cs Tryf.underlying36 hsz hgb hcl hsrc.out (by rw [hcl, hcz]; simp) hone.out
          obtain ⟨wk, hwk⟩ : ∃ wk, (w'.alloc (.cells cur 4)).setRow g (cur.toList.take 0 ++ cs ++ cur.toList.drop (0 + cs.length)).toArray = wk := ⟨_, rfl⟩
          rw [hwk] at hcopy
          have hkb : wk.heap[g]? = some (.cells (cur.toList.take 0 ++ cs ++ cur.toList.drop (0 + cs.length)).toArray 4 (0, 0)) := by rw [← hwk]; exact setRow_heap _ _ _ _ _ _ hgb
          have hbk : Below w'.heap.size w' wk := by rw [← hwk]; exact below_setRow ((Below.refl _ _).alloc (Nat.le_refl _) _) (Nat.le_of_eq hg) _
          have HM : Hid (Below w'.heap.size w' wk ∧ Mask wk (.slice (some ⟨g, 0, none⟩) m m) m K) := by
            refine ⟨hbk, ⟨some ⟨g, 0, none⟩, m, g, rfl, fun _ => ⟨rfl, lt_of_blk hkb⟩, fun i hi => ?_⟩⟩
            rw [cell_of_row _ _ _ _ _ _ hkb]
            have : i < cs.length := by rw [hcl]; simpa using hi
            simp [List.getElem?_append_left this]
            rw [hcs]; simp [hi]
          clear hcs hcells hcur hwk hkb hbk
          go_wp2
          go_meet
          exact ⟨_, _, rfl, HM.out⟩
      case rest =>
        obtain ⟨ko2, kc2, rfl, hb2, hmask⟩ := hcut
        obtain ⟨wk, hwk⟩ : ∃ wk, wk = wc := ⟨_, rfl⟩
        subst hwk
        have HE2 : Hid (Edges wk N ea be oe U V W) := ⟨HE.out.at_, fun h => Nat.lt_of_lt_of_le (HE.out.lbe h) hb2.size,
          fun k hk => (hb2.cell (p := ⟨be, oe + k * 3, none⟩) (HE.out.lbe (by omega))).trans (HE.out.eU k hk), fun k hk => (hb2.cell (p := ⟨be, oe + k * 3 + 1, none⟩) (HE.out.lbe (by omega))).trans (HE.out.eV k hk),
          fun k hk => (hb2.cell (p := ⟨be, oe + k * 3 + 2, none⟩) (HE.out.lbe (by omega))).trans (HE.out.eW k hk), HE.out.hU, HE.out.hV⟩
        have HM2 : Hid (Below w'.heap.size w' wk ∧ Mask wk (.slice ko2 m kc2) m K) := ⟨hb2, hmask⟩
        clear hb2 hmask HE HB11 HKA
        go_wp2
        go_loopw [8] (fun v wr => ∃ j : Nat, v = .int .i64 j ∧ j ≤ N ∧ (∀ k, k < j → 0 ≤ U k ∧ 0 ≤ V k) ∧ wr = wk) (fun v _ => N - (intOf v).toNat)
        case atStart => exact ⟨0, rfl, Nat.zero_le _, fun k hk => by omega, rfl⟩
        case round =>
          obtain ⟨j, rfl, hj, hpos, rfl⟩ := hrel
          have HPOS : Hid (∀ k, k < j → 0 ≤ U k ∧ 0 ≤ V k) := hpos
          clear hpos
          by_cases hlt : j < N
          · have hlt' : (j : Int) < N := by omega
            obtain rfl := HE2.out.at_ (by omega)
            have k0 := HE2.out.eU j hlt
            have k1 := HE2.out.eV j hlt
            by_cases hu : U j < 0
            · have hu' : decide (U j < 0) = true := by simp [hu]
              go_wp2
              go_ret
              exact ⟨rfl, HM2.out.1⟩
            · have hu' : decide (U j < 0) = false := by simp; omega
              by_cases hv : V j < 0
              · have hv' : decide (V j < 0) = true := by simp [hv]
                go_wp2
                go_ret
                exact ⟨rfl, HM2.out.1⟩
              · have hv' : decide (V j < 0) = false := by simp; omega
                go_wp2
                go_roundw
                case rel => exact ⟨j + 1, by go_num, hlt, fun k hk => by
                  rcases Nat.lt_or_ge k j with h | h
                  · exact HPOS.out k h
                  · obtain rfl : k = j := by omega
                    exact ⟨by omega, by omega⟩, by first | rfl | trivial⟩
                case measure => simp [intOf]; omega
          · have hge : ¬ ((j : Int) < N) := by omega
            obtain rfl : N = j := by omega
            obtain ⟨w0, hw0⟩ : ∃ w0, w0 = wr := ⟨_, rfl⟩
            subst hw0
            go_wp2_with (go_at_call 7; refine (build_at _ N be oe ce ea U V W directed HE2.out (by omega) HPOS.out).mono ?_)
            rintro e w1 hpost
            obtain ⟨n, M, bg, bi, bs, bt, bw, I, F, T, rfl, hbw, hbt⟩ := hpost
            have HBT : Hid (Below w0.heap.size w0 w1 ∧ Built w1 n N M bg bi bs bt bw I U V W F T (arcs directed (fun _ => true) F T W N)) := ⟨hbw, hbt⟩
            clear hbw hbt hge
            go_wp2_with (go_at_call 12; refine (rmask_at w1 n N M bg bi bs bt bw m (.slice ko2 m kc2) K I U V W F T directed _ _ HBT.out.2 rfl rfl (by omega) (HM2.out.2.below HBT.out.1)).mono ?_)
            rintro e w2 ⟨M1, rg, rs, rt, rw, rfl, hb3, hbt3⟩
            have g4 := hbt3.g4
            have HB3 : Hid (Below w1.heap.size w1 w2 ∧ Built w2 n N M1 rg bi rs rt rw I U V W F T (arcs directed (mask m K) F T W N)) := ⟨hb3, hbt3⟩
            have b0 := hbt3.g0
            have b1 := hbt3.g1
            have b2 := hbt3.g2
            have b3 := hbt3.g3
            clear hb3 hbt3
            go_wp2_with (go_at_call 8; refine (edges_at rg N _ g4).mono ?_; rintro e w' ⟨rfl, rfl⟩)
            go_wp2_with (go_at_call 9; refine (parts_at rg _ _ _ _ _ _ _ _ _ _ _ _ _ b0 b1 b2 b3).mono ?_; rintro e w3 ⟨rfl, q2, rfl⟩)
            have hBall := HBT.out.1.trans (HB3.out.1.mono HBT.out.1.size)
            have hspec := (HB3.out.2.drewN q2).spec HE2.out (below_drewN hBall q2)
            go_wp2_with (go_at_call 10; refine (check_at _ n N bi rs rt rw be oe n (n + 1) _ _ ce _ I U V W F T directed (mask m K) _ hspec rfl HB3.out.2.hM HB3.out.2.hn (by omega) HB3.out.2.cov ea HE2.out.at_ (.slice ko2 m kc2) true (fun wr hwr i _ => ((HM2.out.2.below (below_drewN hBall q2)).below hwr).kept i)).mono ?_; rintro e w4 ⟨rfl, hb4⟩)
            go_ret
            exact ⟨rfl, HM2.out.1.trans (((below_drewN hBall q2).trans (hb4.mono (below_drewN hBall q2).size)).mono HM2.out.1.size)⟩
end Go.Proofs.Qxb6616522aFmt
