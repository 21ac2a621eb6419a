/-
  THE WALK OF FnRestrictToKeepAndItsNegationSplitOutEdges.
-/
import Derived.Test.Qxb6616522aFmtLaw4
import Derived.Test.Qxb6616522aFmtLaw5A
namespace Go.Proofs.Qxb6616522aFmt
open Go.RowKit

/-- The run of a kept vertex beside the graph's own. -/
theorem runs_at {w : World} {n N M M1 bg bi bs bt bw rg rs rt rw i : Nat} {I U V : Nat → Int} {W F T : Nat → Nat} {A A1 : List Arc} (B : Built w n N M bg bi bs bt bw I U V W F T A) (B1 : Built w n N M1 rg bi rs rt rw I U V W F T A1)
    (hi : i < n) (hr : run A1 i = run A i) (hM : M ≤ 1048576) (hM1 : M1 ≤ 1048576) :
    Calls Tryf.prog 15 #[.slice (some ⟨rt, 0, none⟩) M1 M1, .slice (some ⟨rw, 0, none⟩) M1 M1, .int .i64 (st A1 i), .int .i64 (st A1 (i + 1)), .slice (some ⟨bt, 0, none⟩) M M, .slice (some ⟨bw, 0, none⟩) M M, .int .i64 (st A i), .int .i64 (st A (i + 1))] w
      fun e w' => e = .returned (.bool true) ∧ ∃ q, w' = w.drewN q := by
  have h0 := st_succ A i
  have h1 := st_succ A1 i
  have l0 := st_le_length A (i + 1)
  have l1 := st_le_length A1 (i + 1)
  have m0 := B.hM
  have m1 := B1.hM
  have hl : (run A1 i).length = (run A i).length := by rw [hr]
  refine sameRun_at rt rw bt bw M1 M M1 M1 M M (st A1 i) (st A1 (i + 1)) (st A i) (st A (i + 1)) (run A i).length (fun c => (((run A i).getD c (0, 0, 0)).2.1 : Int)) (fun c => ((run A i).getD c (0, 0, 0)).2.2) (by omega) (by omega) (by omega) (by omega) hM1 hM w ?_ ?_ ?_ ?_
  · intro c hc
    rw [B1.tgt i c hi (by omega)]
    simp [hr, hc]
  · intro c hc
    rw [B1.wgt i c hi (by omega)]
    simp [hr, hc]
  · intro c hc
    rw [B.tgt i c hi hc]
    simp [hc]
  · intro c hc
    rw [B.wgt i c hi hc]
    simp [hc]

/-- The mask turned over. -/
def turned (m : Nat) (K : Nat → Bool) (i : Nat) : Bool := !mask m K i
theorem turned_step {w : World} {bo n m j : Nat} {K : Nat → Bool} (h : w.rowIs bo 4 n (fun i => .bool (decide (i < j) && turned m K i))) : (w.setCell ⟨bo, j, none⟩ (.bool (turned m K j))).rowIs bo 4 n (fun i => .bool (decide (i < j + 1) && turned m K i)) := by
  refine (h.set j _).congr fun i _ => ?_
  by_cases e : i = j
  · subst e; simp
  · have : (i < j + 1) ↔ (i < j) := by omega
    simp [e, this]

set_option maxHeartbeats 2000000 in
set_option maxRecDepth 100000 in
theorem law5_at (w : World) (N be oe ce m kc : Nat) (ea ko : Option Addr) (U V : Nat → Int) (W : Nat → Nat) (K : Nat → Bool) (directed : Bool) (E : Edges w N ea be oe U V W) (hK : KeepArg w ko m kc K) :
    Calls Tryf.prog 5 #[.slice ea N ce, .bool directed, .slice ko m kc] w fun e w' => e = .returned (.bool true) ∧ Below w.heap.size w w' := by
  have HE : Hid (Edges w N ea be oe U V W) := E
  have HKA : Hid (KeepArg w ko m kc K) := hK
  clear E hK
  by_cases hN : N ≤ 32768
  case neg =>
    have h2 : (32768 : Int) < N := by omega
    have h3 : decide (32768 < N) = true := by simp; omega
    cases hB : (decide (N ≤ 1048576) && (decide (m ≤ 1048576) && decide (N + m ≤ 1048576))) with
    | true =>
      go_enter Tryf.func5, Tryf.ntmps5
      go_wp2_with (go_at_call 13; refine (bytes13_at ea ko N ce m kc directed w).mono ?_; rw [hB]; rintro e w' ⟨rfl, rfl⟩)
      go_ret
      exact ⟨rfl, Below.refl _ _⟩
    | false =>
      go_enter Tryf.func5, Tryf.ntmps5
      go_wp2_with (go_at_call 13; refine (bytes13_at ea ko N ce m kc directed w).mono ?_; rw [hB]; rintro e w' ⟨rfl, rfl⟩)
      go_ret
      exact ⟨rfl, Below.refl _ _⟩
  case pos =>
    have h1 : ¬ ((32768 : Int) < N) := by omega
    have h1' : decide (32768 < N) = false := by simp; omega
    by_cases hm : m ≤ 65536
    case neg =>
      have h2 : (65536 : Int) < m := by omega
      have h3 : decide (65536 < m) = true := by simp; omega
      cases hB : (decide (N ≤ 1048576) && (decide (m ≤ 1048576) && decide (N + m ≤ 1048576))) with
      | true =>
        go_enter Tryf.func5, Tryf.ntmps5
        go_wp2_with (go_at_call 13; refine (bytes13_at ea ko N ce m kc directed w).mono ?_; rw [hB]; rintro e w' ⟨rfl, rfl⟩)
        go_ret
        exact ⟨rfl, Below.refl _ _⟩
      | false =>
        go_enter Tryf.func5, Tryf.ntmps5
        go_wp2_with (go_at_call 13; refine (bytes13_at ea ko N ce m kc directed w).mono ?_; rw [hB]; rintro e w' ⟨rfl, rfl⟩)
        go_ret
        exact ⟨rfl, Below.refl _ _⟩
    case pos =>
      have h2 : ¬ ((65536 : Int) < m) := by omega
      have h3 : decide (65536 < m) = false := by simp; omega
      have hB : (decide (N ≤ 1048576) && (decide (m ≤ 1048576) && decide (N + m ≤ 1048576))) = true := by simp; omega
      have HB13 : Hid (Calls Tryf.prog 13 #[.slice ea N ce, .bool directed, .slice ko m kc] w fun e w' => e = .returned (.bool true) ∧ w' = w) := by
        have := bytes13_at ea ko N ce m kc directed w
        rwa [hB] at this
      clear hB
      go_enter Tryf.func5, Tryf.ntmps5
      go_upto_if 40 with (go_at_call 13; refine HB13.out.mono ?_; rintro e w' ⟨rfl, rfl⟩)
      go_cut [2, 7, 40] from 41 to 47 (fun s2 _ _ wx => ∃ ko2 kc2, s2 = .slice ko2 m kc2 ∧ Below w'.heap.size w' wx ∧ Mask wx (.slice ko2 m kc2) m K)
      case first =>
        rcases HKA.out.form with ⟨rfl, rfl, rfl⟩ | ⟨a, rfl, hcells⟩
        · go_wp2
          go_meet
          exact ⟨none, 0, rfl, Below.refl _ _, ⟨none, 0, 0, rfl, fun h => by omega, fun i h => by omega⟩⟩
        · have hmk4 := run_make_row' (P := Tryf.prog) 36 4 (.bool false) 1 Tryf.underlying36 info4 rfl .i64 .i64 m (by omega) (by omega)
          have hsz : (Tryf.prog.info? 4).map (·.size) = some 1 := by
            obtain ⟨i, hi, _, h1, _⟩ := info_parts info4
            rw [hi]; simp [h1]
          obtain ⟨g, hg⟩ : ∃ g, w'.heap.size = g := ⟨_, rfl⟩
          obtain ⟨cur, hcur⟩ : ∃ cur, cur = madeCells #[Value.bool false] m := ⟨_, rfl⟩
          obtain ⟨cs, hcs⟩ : ∃ cs, cs = (List.range m).map fun i => Value.bool (K i) := ⟨_, rfl⟩
          rw [← hcur] at hmk4
          have hcz : cur.size = m := by rw [hcur]; simp [madeCells]
          have hcl : cs.length = Nat.min m m := by rw [hcs]; simp
          have hgb : (w'.alloc (.cells cur 4)).heap[g]? = some (.cells cur 4 (0, 0)) := by
            rw [← hg]
            show (w'.heap.push _)[w'.heap.size]? = _
            rw [Array.getElem?_push, if_pos rfl]
          have hsrc : Hid (∀ j v, cs[j]? = some v → (w'.alloc (.cells cur 4)).cell? (a.add j) = some v) := fun j v hv => by
            have hj : j < m := by have := (List.getElem?_eq_some_iff.1 hv).1; rw [hcl] at this; simpa using this
            have hc := hcells j hj
            rw [((Below.refl w'.heap.size w').alloc (Nat.le_refl _) _).cell (block_lt_of_cell hc), hc, ← hv, hcs]; simp [hj]
          have hone : Hid (∀ v ∈ cs, v.oneCell' = true) := fun v hv => by rw [hcs, List.mem_map] at hv; obtain ⟨_, _, rfl⟩ := hv; rfl
          have HC : Hid (cs = (List.range m).map fun i => Value.bool (K i)) := hcs
          have HCELLS : Hid (∀ i, i < m → w'.cell? (a.add i) = some (.bool (K i))) := hcells
          have hcopy := run_copy_row (P := Tryf.prog) (w'.alloc (.cells cur 4)) 36 36 3 4 g 0 m m a m kc cur 4 cs Tryf.underlying36 hsz hgb hcl hsrc.out (by rw [hcl, hcz]; simp) hone.out
          obtain ⟨wk, hwk⟩ : ∃ wk, (w'.alloc (.cells cur 4)).setRow g (cur.toList.take 0 ++ cs ++ cur.toList.drop (0 + cs.length)).toArray = wk := ⟨_, rfl⟩
          rw [hwk] at hcopy
          have hkb : wk.heap[g]? = some (.cells (cur.toList.take 0 ++ cs ++ cur.toList.drop (0 + cs.length)).toArray 4 (0, 0)) := by rw [← hwk]; exact setRow_heap _ _ _ _ _ _ hgb
          have hbk : Below w'.heap.size w' wk := by rw [← hwk]; exact below_setRow ((Below.refl _ _).alloc (Nat.le_refl _) _) (Nat.le_of_eq hg) _
          have HM : Hid (Below w'.heap.size w' wk ∧ Mask wk (.slice (some ⟨g, 0, none⟩) m m) m K) := by
            refine ⟨hbk, ⟨some ⟨g, 0, none⟩, m, g, rfl, fun _ => ⟨rfl, lt_of_blk hkb⟩, fun i hi => ?_⟩⟩
            rw [cell_of_row _ _ _ _ _ _ hkb]
            have : i < cs.length := by rw [hcl]; simpa using hi
            simp [List.getElem?_append_left this]
            rw [hcs]; simp [hi]
          clear hcs hcells hcur hwk hkb hbk
          go_wp2
          go_meet
          exact ⟨_, _, rfl, HM.out⟩
      case rest =>
        obtain ⟨ko2, kc2, rfl, hb2, hmask⟩ := hcut
        obtain ⟨wk, hwk⟩ : ∃ wk, wk = wc := ⟨_, rfl⟩
        subst hwk
        have HE2 : Hid (Edges wk N ea be oe U V W) := ⟨HE.out.at_, fun h => Nat.lt_of_lt_of_le (HE.out.lbe h) hb2.size,
          fun k hk => (hb2.cell (p := ⟨be, oe + k * 3, none⟩) (HE.out.lbe (by omega))).trans (HE.out.eU k hk), fun k hk => (hb2.cell (p := ⟨be, oe + k * 3 + 1, none⟩) (HE.out.lbe (by omega))).trans (HE.out.eV k hk),
          fun k hk => (hb2.cell (p := ⟨be, oe + k * 3 + 2, none⟩) (HE.out.lbe (by omega))).trans (HE.out.eW k hk), HE.out.hU, HE.out.hV⟩
        have HM2 : Hid (Below w'.heap.size w' wk ∧ Mask wk (.slice ko2 m kc2) m K) := ⟨hb2, hmask⟩
        clear hb2 hmask HE HB13 HKA
        go_wp2
        go_loopw [8] (fun v wr => ∃ j : Nat, v = .int .i64 j ∧ j ≤ N ∧ (∀ k, k < j → 0 ≤ U k ∧ 0 ≤ V k) ∧ wr = wk) (fun v _ => N - (intOf v).toNat)
        case atStart => exact ⟨0, rfl, Nat.zero_le _, fun k hk => by omega, rfl⟩
        case round =>
          obtain ⟨j, rfl, hj, hpos, rfl⟩ := hrel
          have HPOS : Hid (∀ k, k < j → 0 ≤ U k ∧ 0 ≤ V k) := hpos
          clear hpos
          by_cases hlt : j < N
          · have hlt' : (j : Int) < N := by omega
            obtain rfl := HE2.out.at_ (by omega)
            have k0 := HE2.out.eU j hlt
            have k1 := HE2.out.eV j hlt
            by_cases hu : U j < 0
            · have hu' : decide (U j < 0) = true := by simp [hu]
              go_wp2
              go_ret
              exact ⟨rfl, HM2.out.1⟩
            · have hu' : decide (U j < 0) = false := by simp; omega
              by_cases hv : V j < 0
              · have hv' : decide (V j < 0) = true := by simp [hv]
                go_wp2
                go_ret
                exact ⟨rfl, HM2.out.1⟩
              · have hv' : decide (V j < 0) = false := by simp; omega
                go_wp2
                go_roundw
                case rel => exact ⟨j + 1, by go_num, hlt, fun k hk => by
                  rcases Nat.lt_or_ge k j with h | h
                  · exact HPOS.out k h
                  · obtain rfl : k = j := by omega
                    exact ⟨by omega, by omega⟩, by first | rfl | trivial⟩
                case measure => simp [intOf]; omega
          · have hge : ¬ ((j : Int) < N) := by omega
            obtain rfl : N = j := by omega
            obtain ⟨w0, hw0⟩ : ∃ w0, w0 = wr := ⟨_, rfl⟩
            subst hw0
            go_wp2_with (go_at_call 7; refine (build_at _ N be oe ce ea U V W directed HE2.out (by omega) HPOS.out).mono ?_)
            rintro e w1 hpost
            obtain ⟨n, M, bg, bi, bs, bt, bw, I, F, T, rfl, hbw, hbt⟩ := hpost
            have HBT : Hid (Below w0.heap.size w0 w1 ∧ Built w1 n N M bg bi bs bt bw I U V W F T (arcs directed (fun _ => true) F T W N)) := ⟨hbw, hbt⟩
            clear hbw hbt hge
            have b0 := HBT.out.2.g0
            have b1 := HBT.out.2.g1
            have b2 := HBT.out.2.g2
            have b3 := HBT.out.2.g3
            go_wp2_with (go_at_call 9; refine (parts_at bg _ _ _ _ _ _ _ _ _ _ _ _ _ b0 b1 b2 b3).mono ?_; rintro e w3 ⟨rfl, q2, rfl⟩)
            have hspec := (HBT.out.2.drewN q2).spec HE2.out (below_drewN HBT.out.1 q2)
            go_upto_if 87 with (go_at_call 10; refine (check_at _ n N bi bs bt bw be oe n (n + 1) _ _ ce _ I U V W F T directed (fun _ => true) _ hspec rfl HBT.out.2.hM HBT.out.2.hn (by omega) HBT.out.2.cov ea HE2.out.at_ (.slice none 0 0) false (fun wr _ i _ => kept_all i _ wr)).mono ?_; rintro e w4 ⟨rfl, hb4⟩)
            have hb04 : Below w0.heap.size w0 w4 := (below_drewN HBT.out.1 q2).trans (hb4.mono (below_drewN HBT.out.1 q2).size)
            have hn2 : ¬ (2 * (N : Int) < n) := by have := HBT.out.2.hn; omega
            have hnb : n ≤ 65536 := by have := HBT.out.2.hn; omega
            obtain ⟨A, hA⟩ : ∃ A, A = arcs directed (fun _ => true) F T W N := ⟨_, rfl⟩
            have hMb : M ≤ 65536 := by
              have := arcs_length directed (fun _ => true) F T W N
              rw [HBT.out.2.hM]; omega
            have HA : Hid (A = arcs directed (fun _ => true) F T W N) := hA
            have HS : Hid (Below w0.heap.size w0 w4 ∧ Built w4 n N M bg bi bs bt bw I U V W F T A ∧ Mask w4 (.slice ko2 m kc2) m K) :=
              ⟨hb04, by rw [hA]; exact (HBT.out.2.drewN q2).below hb4, HM2.out.2.below hb04⟩
            clear hA hb4 hb04 hspec HBT b0 b1 b2 b3
            have hmk4 := run_make_row' (P := Tryf.prog) 36 4 (.bool false) 1 Tryf.underlying36 info4 rfl .i64 .i64 n (by omega) (by omega)
            obtain ⟨bo, hbo⟩ : ∃ bo, w4.heap.size = bo := ⟨_, rfl⟩
            have START : Hid (Below bo w4 (w4.alloc (.cells (madeCells #[.bool false] n) 4)) ∧ (w4.alloc (.cells (madeCells #[.bool false] n) 4)).rowIs bo 4 n (fun i => .bool (decide (i < 0) && turned m K i))) := by
              subst hbo
              exact ⟨(Below.refl _ _).alloc (Nat.le_refl _) _, (World.rowIs_made w4 _ n 4).congr fun i _ => by simp⟩
            obtain ⟨kb, hkb1, hkb2⟩ : ∃ kb, (0 < m → ko2 = some ⟨kb, 0, none⟩ ∧ kb < w4.heap.size) ∧ ∀ i, i < m → w4.cell? ⟨kb, i, none⟩ = some (.bool (K i)) := by
              obtain ⟨ko', kc', kb, he, h2, h3⟩ := HS.out.2.2.form
              simp at he
              obtain ⟨rfl, rfl⟩ := he
              exact ⟨kb, h2, h3⟩
            have HKB : Hid ((0 < m → ko2 = some ⟨kb, 0, none⟩ ∧ kb < w4.heap.size) ∧ ∀ i, i < m → w4.cell? ⟨kb, i, none⟩ = some (.bool (K i))) := ⟨hkb1, hkb2⟩
            clear hkb1 hkb2
            go_wp2
            go_loopw [16] (fun v wr => ∃ j : Nat, v = .int .i64 j ∧ j ≤ n ∧ Below bo w4 wr ∧ wr.rowIs bo 4 n (fun i => .bool (decide (i < j) && turned m K i))) (fun v _ => n - (intOf v).toNat)
            case atStart => exact ⟨0, rfl, Nat.zero_le _, START.out⟩
            case round =>
              clear START hmk4
              obtain ⟨j, rfl, hj2, hb5, hrow⟩ := hrel
              by_cases hlt2 : j < n
              · have hlt' : (j : Int) < n := by omega
                have c2 := hrow.cell hlt2
                have f2 := hrow.frozen j
                by_cases hjm : j < m
                · have hjm' : (j : Int) < m := by omega
                  obtain ⟨hko, hkb⟩ := HKB.out.1 (by omega)
                  subst hko
                  have kc := (hb5.cell (p := ⟨kb, j, none⟩) (hbo ▸ hkb)).trans (HKB.out.2 j hjm)
                  have HX : Hid (Below bo w4 (wr.setCell ⟨bo, j, none⟩ (.bool (!K j))) ∧ (wr.setCell ⟨bo, j, none⟩ (.bool (!K j))).rowIs bo 4 n (fun i => .bool (decide (i < j + 1) && turned m K i))) := by
                    have := turned_step hrow
                    rw [show turned m K j = !K j by simp [turned, mask, hjm]] at this
                    exact ⟨hb5.setCell (p := ⟨bo, j, none⟩) (Nat.le_refl _) _, this⟩
                  clear hb5 hrow
                  go_wp2
                  go_roundw
                  case rel => exact ⟨j + 1, by go_num, hlt2, HX.out⟩
                  case measure => simp [intOf]; omega
                · have hjm' : ¬ ((j : Int) < m) := by omega
                  have hjd : decide (j < m) = false := by simp [hjm]
                  have HX : Hid (Below bo w4 (wr.setCell ⟨bo, j, none⟩ (.bool true)) ∧ (wr.setCell ⟨bo, j, none⟩ (.bool true)).rowIs bo 4 n (fun i => .bool (decide (i < j + 1) && turned m K i))) := by
                    have := turned_step hrow
                    rw [show turned m K j = true by simp [turned, mask, hjm]] at this
                    exact ⟨hb5.setCell (p := ⟨bo, j, none⟩) (Nat.le_refl _) _, this⟩
                  clear hb5 hrow
                  go_wp2
                  go_roundw
                  case rel => exact ⟨j + 1, by go_num, hlt2, HX.out⟩
                  case measure => simp [intOf]; omega
              · have hge : ¬ ((j : Int) < n) := by omega
                obtain rfl : n = j := by omega
                obtain ⟨w5, hw5⟩ : ∃ w5, w5 = wr := ⟨_, rfl⟩
                subst hw5
                have hb5' : Below w4.heap.size w4 w5 := hbo ▸ hb5
                have HS5 : Hid (Below w0.heap.size w0 w5 ∧ Built w5 n N M bg bi bs bt bw I U V W F T A ∧ Mask w5 (.slice ko2 m kc2) m K ∧ Mask w5 (.slice (some ⟨bo, 0, none⟩) n n) n (turned m K)) :=
                  ⟨HS.out.1.trans (hb5'.mono HS.out.1.size), HS.out.2.1.below hb5', HS.out.2.2.below hb5', ⟨some ⟨bo, 0, none⟩, n, bo, rfl, fun _ => ⟨rfl, hrow.lt⟩, fun i hi => by rw [hrow.cell hi]; simp [hi]⟩⟩
                clear hb5 hb5' hrow hbo HS
                obtain ⟨A1, hA1⟩ : ∃ A1, A1 = arcs directed (mask m K) F T W N := ⟨_, rfl⟩
                obtain ⟨A2, hA2⟩ : ∃ A2, A2 = arcs directed (mask n (turned m K)) F T W N := ⟨_, rfl⟩
                have HA12 : Hid (A1 = arcs directed (mask m K) F T W N ∧ A2 = arcs directed (mask n (turned m K)) F T W N) := ⟨hA1, hA2⟩
                clear hA1 hA2
                go_wp2_with (go_at_call 12; refine (rmask_at w5 n N M bg bi bs bt bw m (.slice ko2 m kc2) K I U V W F T directed A A1 HS5.out.2.1 HA.out HA12.out.1 (by omega) HS5.out.2.2.1).mono ?_)
                rintro e w6 ⟨M1, rg, rs, rt, rw, rfl, hb6, hbt6⟩
                have HS6 : Hid (Below w0.heap.size w0 w6 ∧ Built w6 n N M bg bi bs bt bw I U V W F T A ∧ Built w6 n N M1 rg bi rs rt rw I U V W F T A1 ∧ Mask w6 (.slice ko2 m kc2) m K ∧ Mask w6 (.slice (some ⟨bo, 0, none⟩) n n) n (turned m K)) :=
                  ⟨HS5.out.1.trans (hb6.mono HS5.out.1.size), HS5.out.2.1.below hb6, hbt6, HS5.out.2.2.1.below hb6, HS5.out.2.2.2.below hb6⟩
                clear hb6 hbt6 HS5
                go_wp2_with (go_at_call 12; refine (rmask_at w6 n N M bg bi bs bt bw n (.slice (some ⟨bo, 0, none⟩) n n) (turned m K) I U V W F T directed A A2 HS6.out.2.1 HA.out HA12.out.2 (by omega) HS6.out.2.2.2.2).mono ?_)
                rintro e w7 ⟨M2, rg2, rs2, rt2, rw2, rfl, hb7, hbt7⟩
                have HS7 : Hid (Below w0.heap.size w0 w7 ∧ Built w7 n N M bg bi bs bt bw I U V W F T A ∧ Built w7 n N M1 rg bi rs rt rw I U V W F T A1 ∧ Built w7 n N M2 rg2 bi rs2 rt2 rw2 I U V W F T A2 ∧ Mask w7 (.slice ko2 m kc2) m K) :=
                  ⟨HS6.out.1.trans (hb7.mono HS6.out.1.size), HS6.out.2.1.below hb7, HS6.out.2.2.1.below hb7, hbt7, HS6.out.2.2.2.1.below hb7⟩
                clear hb7 hbt7 HS6
                have g4 := HS7.out.2.2.1.g4
                have g4' := HS7.out.2.2.2.1.g4
                have b0 := HS7.out.2.2.1.g0
                have b1 := HS7.out.2.2.1.g1
                have b2 := HS7.out.2.2.1.g2
                have b3 := HS7.out.2.2.1.g3
                have c0 := HS7.out.2.2.2.1.g0
                have c1 := HS7.out.2.2.2.1.g1
                have c2 := HS7.out.2.2.2.1.g2
                have c3 := HS7.out.2.2.2.1.g3
                go_upto_region 36 with (go_at_call 8; (first | refine (edges_at rg N _ g4).mono ?_ | refine (edges_at rg2 N _ g4').mono ?_); rintro e w7 ⟨rfl, rfl⟩)
                go_upto_region 37 with (go_at_call 9; refine (parts_at rg _ _ _ _ _ _ _ _ _ _ _ _ _ b0 b1 b2 b3).mono ?_; rintro e w8 ⟨rfl, q3, rfl⟩)
                go_upto_region 38 with (go_at_call 9; refine (parts_at rg2 _ _ _ _ _ _ _ _ _ _ _ _ (w7.drewN q3) c0 c1 c2 c3).mono ?_; rintro e w8 ⟨rfl, q4, rfl⟩)
                generalize hw8 : w7.drewN (q3 + q4) = w8
                have HS8 : Hid (Below w0.heap.size w0 w8 ∧ Built w8 n N M bg bi bs bt bw I U V W F T A ∧ Built w8 n N M1 rg bi rs rt rw I U V W F T A1 ∧ Built w8 n N M2 rg2 bi rs2 rt2 rw2 I U V W F T A2 ∧ Mask w8 (.slice ko2 m kc2) m K) := by
                  rw [← hw8]
                  exact ⟨below_drewN HS7.out.1 _, HS7.out.2.1.drewN _, HS7.out.2.2.1.drewN _, HS7.out.2.2.2.1.drewN _, HS7.out.2.2.2.2.below (below_drewN (Below.refl _ _) _)⟩
                clear hw8 HS7 g4 g4' b0 b1 b2 b3 c0 c1 c2 c3
                have HID0 : Hid (Calls Tryf.prog 14 #[.slice (some ⟨bi, 0, none⟩) n n, .slice (some ⟨bi, 0, none⟩) n n] w8 fun e w' => e = .returned (.bool true) ∧ ∃ q, w' = w8.drewN q) := sameIDs_at n n n bi bi I (by omega) w8 HS8.out.2.1.ids HS8.out.2.1.ids
                have HID1 : Hid (∀ q, Calls Tryf.prog 14 #[.slice (some ⟨bi, 0, none⟩) n n, .slice (some ⟨bi, 0, none⟩) n n] (w8.drewN q) fun e w' => e = .returned (.bool true) ∧ ∃ q', w' = (w8.drewN q).drewN q') := fun q => sameIDs_at n n n bi bi I (by omega) (w8.drewN q) (HS8.out.2.1.drewN q).ids (HS8.out.2.1.drewN q).ids
                go_upto_region 40 with (go_at_call 14; (first | (refine HID0.out.mono ?_; rintro e w9 ⟨rfl, q5, rfl⟩) | (refine (HID1.out _).mono ?_; rintro e w9 ⟨rfl, q6, rfl⟩)))
                clear HID0 HID1
                go_wp2
                go_loopw [27] (fun v wr => ∃ j : Nat, v = .int .i64 j ∧ j ≤ n ∧ Below w8.heap.size w8 wr) (fun v _ => n - (intOf v).toNat)
                case atStart => exact ⟨0, rfl, Nat.zero_le _, below_drewN (Below.refl _ _) _⟩
                case round =>
                  obtain ⟨j, rfl, hj3, hb9⟩ := hrel
                  by_cases hlt3 : j < n
                  · have hlt' : (j : Int) < n := by omega
                    have hj1 : (j : Int) + 1 < (n : Int) + 1 := by omega
                    have hj0 : (j : Int) < (n : Int) + 1 := by omega
                    have B0 := HS8.out.2.1.below hb9
                    have B1 := HS8.out.2.2.1.below hb9
                    have B2 := HS8.out.2.2.2.1.below hb9
                    have r1 := run_kept directed (mask m K) F T W N j
                    have r2 := run_kept directed (mask n (turned m K)) F T W N j
                    rw [← HA.out, ← HA12.out.1] at r1
                    rw [← HA.out, ← HA12.out.2] at r2
                    rw [show mask n (turned m K) j = !mask m K j by simp [mask, hlt3, turned]] at r2
                    have s0 := B1.start j (by omega)
                    have s1 := B1.start (j + 1) (by omega)
                    have g0 := B0.start j (by omega)
                    have g1 := B0.start (j + 1) (by omega)
                    have t0 := B2.start j (by omega)
                    have t1 := B2.start (j + 1) (by omega)
                    have hM1b : M1 ≤ 1048576 := by
                      have := arcs_length directed (mask m K) F T W N
                      rw [B1.hM, HA12.out.1]; omega
                    have hM2b : M2 ≤ 1048576 := by
                      have := arcs_length directed (mask n (turned m K)) F T W N
                      rw [B2.hM, HA12.out.2]; omega
                    obtain ⟨kb2, hkb1, hkb2⟩ : ∃ kb, (0 < m → ko2 = some ⟨kb, 0, none⟩) ∧ ∀ i, i < m → wr.cell? ⟨kb, i, none⟩ = some (.bool (K i)) := by
                      obtain ⟨ko', kc', kb, he, h2, h3⟩ := (HS8.out.2.2.2.2.below hb9).form
                      simp at he
                      obtain ⟨rfl, rfl⟩ := he
                      exact ⟨kb, fun h => (h2 h).1, h3⟩
                    cases hmk : mask m K j with
                    | true =>
                      obtain ⟨hjm, hKj⟩ : j < m ∧ K j = true := by simpa [mask] using hmk
                      have hjm' : (j : Int) < m := by omega
                      have kc := hkb2 j hjm
                      rw [hKj] at kc
                      have hko := hkb1 (by omega)
                      subst hko
                      simp only [hmk, if_true] at r1
                      simp only [hmk, Bool.not_true] at r2
                      have hs2 := st_succ A2 j
                      rw [show (run A2 j).length = 0 by rw [r2]; rfl] at hs2
                      rw [hs2] at t1
                      have HRUN : Hid (∀ q, Calls Tryf.prog 15 #[.slice (some ⟨rt, 0, none⟩) M1 M1, .slice (some ⟨rw, 0, none⟩) M1 M1, .int .i64 (st A1 j), .int .i64 (st A1 (j + 1)), .slice (some ⟨bt, 0, none⟩) M M, .slice (some ⟨bw, 0, none⟩) M M, .int .i64 (st A j), .int .i64 (st A (j + 1))] (wr.drewN q)
                          fun e w' => e = .returned (.bool true) ∧ ∃ q', w' = (wr.drewN q).drewN q') := fun q => runs_at (B0.drewN q) (B1.drewN q) hlt3 r1 (by omega) hM1b
                      have HB9 : Hid (Below w8.heap.size w8 wr) := hb9
                      clear hb9 B0 B1 B2 r1 r2 hs2 hkb1 hkb2 hKj hmk
                      generalize st A1 j = a1 at *
                      generalize st A1 (j + 1) = a2 at *
                      generalize st A j = a3 at *
                      generalize st A (j + 1) = a4 at *
                      generalize st A2 j = a5 at *
                      go_wp2
                      go_quiet ((go_at_call 15; exact Calls.quiet_of (HRUN.out _)))
                      go_wp2
                      go_roundw
                      case rel => exact ⟨j + 1, by go_num, hlt3, below_drewN HB9.out _⟩
                      case measure => simp [intOf]; omega
                    | false =>
                      simp only [hmk, Bool.not_false, if_true] at r1 r2
                      have hs1 := st_succ A1 j
                      rw [show (run A1 j).length = 0 by rw [r1]; rfl] at hs1
                      rw [hs1] at s1
                      have HRUN : Hid (∀ q, Calls Tryf.prog 15 #[.slice (some ⟨rt2, 0, none⟩) M2 M2, .slice (some ⟨rw2, 0, none⟩) M2 M2, .int .i64 (st A2 j), .int .i64 (st A2 (j + 1)), .slice (some ⟨bt, 0, none⟩) M M, .slice (some ⟨bw, 0, none⟩) M M, .int .i64 (st A j), .int .i64 (st A (j + 1))] (wr.drewN q)
                          fun e w' => e = .returned (.bool true) ∧ ∃ q', w' = (wr.drewN q).drewN q') := fun q => runs_at (B0.drewN q) (B2.drewN q) hlt3 r2 (by omega) hM2b
                      have HB9 : Hid (Below w8.heap.size w8 wr) := hb9
                      clear hb9 B0 B1 B2 r1 r2 hs1
                      generalize st A1 j = a1 at *
                      generalize st A2 (j + 1) = a2 at *
                      generalize st A j = a3 at *
                      generalize st A (j + 1) = a4 at *
                      generalize st A2 j = a5 at *
                      by_cases hjm : j < m
                      · have hKj : K j = false := by simpa [mask, hjm] using hmk
                        have hjm' : (j : Int) < m := by omega
                        have kc := hkb2 j hjm
                        rw [hKj] at kc
                        have hko := hkb1 (by omega)
                        subst hko
                        clear hkb1 hkb2 hKj hmk
                        go_wp2
                        go_quiet ((go_at_call 15; exact Calls.quiet_of (HRUN.out _)))
                        go_wp2
                        go_roundw
                        case rel => exact ⟨j + 1, by go_num, hlt3, below_drewN HB9.out _⟩
                        case measure => simp [intOf]; omega
                      · have hjm' : ¬ ((j : Int) < m) := by omega
                        have hjd : decide (j < m) = false := by simp [hjm]
                        clear hkb1 hkb2 hmk
                        go_wp2
                        go_quiet ((go_at_call 15; exact Calls.quiet_of (HRUN.out _)))
                        go_wp2
                        go_roundw
                        case rel => exact ⟨j + 1, by go_num, hlt3, below_drewN HB9.out _⟩
                        case measure => simp [intOf]; omega
                  · have hge : ¬ ((j : Int) < n) := by omega
                    have HB9 : Hid (Below w8.heap.size w8 wr) := hb9
                    clear hb9
                    go_wp2
                    go_ret
                    exact ⟨rfl, HM2.out.1.trans ((HS8.out.1.trans (HB9.out.mono HS8.out.1.size)).mono HM2.out.1.size)⟩
end Go.Proofs.Qxb6616522aFmt
