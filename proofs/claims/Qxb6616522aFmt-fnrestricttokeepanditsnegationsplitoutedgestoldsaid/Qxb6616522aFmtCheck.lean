/-
  THE WALK OF checkSpec.
-/
import Derived.Test.Qxb6616522aFmtSmall
import Derived.Test.Qxb6616522aFmtArcs
import Derived.Deep.QuietTactic
import Derived.BigQuiet
import Derived.Deep.OwnRows
import Derived.WalkSmall
import Derived.Deep.Cut
import Derived.Deep.CutRange
import Derived.Deep.RegionWith
namespace Go.Proofs.Qxb6616522aFmt
open Go.RowKit

theorem info4 : (Tryf.prog.info? 4).map (fun i => (i.zero, i.size, i.bytes)) = some (some (.bool false), 1, 1) := by kernel_rfl
theorem info3 : (Tryf.prog.info? 3).map (fun i => (i.zero, i.size, i.bytes)) = some (some (.int .i64 0), 1, 8) := by kernel_rfl

/-- Which indexes the first k edges name. -/
def usedB (F T : Nat → Nat) : Nat → Nat → Bool
  | 0, _ => false
  | k + 1, i => usedB F T k i || (F k == i) || (T k == i)
theorem usedB_of {F T : Nat → Nat} {k N i : Nat} (hk : k < N) (h : F k = i ∨ T k = i) : usedB F T N i = true := by
  induction N with
  | zero => omega
  | succ N ih =>
    unfold usedB
    rcases Nat.lt_or_ge k N with h1 | h1
    · rw [ih h1]; simp
    · obtain rfl : k = N := by omega
      rcases h with h | h <;> simp [h]

/-- WHAT checkSpec IS HANDED, read in w: ids, offsets, targets, weights of the arcs A; the edges; what is kept. -/
structure Spec (w : World) (n N : Nat) (bi bs bt bw be oe : Nat) (I U V : Nat → Int) (W F T : Nat → Nat) (A : List Arc) : Prop where
  lbi : bi < w.heap.size
  lbs : bs < w.heap.size
  lbt : bt < w.heap.size
  lbw : bw < w.heap.size
  ids : ∀ i, i < n → w.cell? ⟨bi, i, none⟩ = some (.int .i32 (I i))
  start : ∀ i, i ≤ n → w.cell? ⟨bs, i, none⟩ = some (.int .i64 (st A i))
  tgt : ∀ s c, s < n → (h : c < (run A s).length) → w.cell? ⟨bt, st A s + c, none⟩ = some (.int .i32 ((run A s)[c].2.1))
  wgt : ∀ s c, s < n → (h : c < (run A s).length) → w.cell? ⟨bw, st A s + c, none⟩ = some (.float .f64 ((run A s)[c].2.2))
  lbe : 0 < N → be < w.heap.size
  eU : ∀ k, k < N → w.cell? ⟨be, oe + k * 3, none⟩ = some (.int .i32 (U k))
  eV : ∀ k, k < N → w.cell? ⟨be, oe + k * 3 + 1, none⟩ = some (.int .i32 (V k))
  eW : ∀ k, k < N → w.cell? ⟨be, oe + k * 3 + 2, none⟩ = some (.float .f64 (W k))
  asc : Asc n I
  sF : ∀ k, k < N → F k < n ∧ U k = I (F k)
  sT : ∀ k, k < N → T k < n ∧ V k = I (T k)

/-- An arc that follows a prefix is the next of its source's run. -/
theorem pick {A L K : List Arc} {a : Nat} {p : Nat × Nat} (h : A = L ++ (a, p) :: K) : ∃ hlt : (run L a).length < (run A a).length, (run A a)[(run L a).length] = (a, p) := by
  have e : run A a = run L a ++ (a, p) :: run K a := by rw [h, run_append, run_cons, if_pos rfl]
  refine ⟨by rw [e]; simp, ?_⟩
  simp [e]
/-- A stands as the first k edges' arcs, edge k's, and the rest. -/
theorem arcs_split {directed : Bool} {kp : Nat → Bool} {F T W : Nat → Nat} {k N : Nat} (h : k < N) : ∃ K, arcs directed kp F T W N = arcs directed kp F T W k ++ (ones directed kp F T W k ++ K) := by
  obtain ⟨K, hK⟩ := arcs_prefix directed kp F T W (k := k + 1) (N := N) h
  exact ⟨K, by rw [hK, arcs, List.append_assoc]⟩
/-- What the two stores of a round make of the cursors. -/
def half (kp : Nat → Bool) (F T W : Nat → Nat) (k : Nat) : List Arc := if kp (F k) then [(F k, T k, W k)] else []
theorem used_step {w1 : World} {bu n k : Nat} {F T : Nat → Nat} (hu : w1.rowIs bu 4 n (fun i => .bool (usedB F T k i))) :
    ((w1.setCell ⟨bu, F k, none⟩ (.bool true)).setCell ⟨bu, T k, none⟩ (.bool true)).rowIs bu 4 n (fun i => .bool (usedB F T (k + 1) i)) := by
  refine ((hu.set _ _).set _ _).congr ?_
  intro i _
  by_cases h1 : i = T k
  · subst h1; simp [usedB]
  · by_cases h2 : i = F k
    · subst h2; simp [usedB, h1]
    · have e1 : (F k == i) = false := by simpa using fun h => h2 h.symm
      have e2 : (T k == i) = false := by simpa using fun h => h1 h.symm
      simp [h1, h2, usedB, e1, e2]
theorem cur_step {w1 : World} {bc n a : Nat} {x : Nat × Nat} {A L : List Arc} {c0 : Nat} (hc : w1.rowIs bc 3 n (fun i => .int .i64 ((st A i : Int) + ((run L i).length : Int)))) (h0 : c0 = st A a + (run L a).length) :
    (w1.setCell ⟨bc, a, none⟩ (.int .i64 ((c0 : Int) + 1))).rowIs bc 3 n (fun i => .int .i64 ((st A i : Int) + ((run (L ++ [(a, x)]) i).length : Int))) := by
  refine (hc.set _ _).congr ?_
  intro i _
  rw [run_append, run_one]
  by_cases h1 : i = a
  · subst h1; simp [h0]; omega
  · have h2 : ¬ a = i := fun h => h1 h.symm
    simp [h1, h2]

set_option maxHeartbeats 2000000 in
set_option maxRecDepth 100000 in
theorem check_at (w : World) (n N : Nat) (bi bs bt bw be oe ci cs ct cw ce M : Nat) (I U V : Nat → Int) (W F T : Nat → Nat) (directed : Bool) (kp : Nat → Bool) (A : List Arc)
    (S : Spec w n N bi bs bt bw be oe I U V W F T A) (hA : A = arcs directed kp F T W N) (hM : M = A.length) (hn : n ≤ 2 * N) (hN : N ≤ 65536) (hcov : ∀ i, i < n → ∃ k, k < N ∧ (F k = i ∨ T k = i))
    (ea : Option Addr) (hea : 0 < N → ea = some ⟨be, oe, none⟩) (kv : Value) (uk : Bool)
    (hkept : ∀ wr, Below w.heap.size w wr → ∀ i, i < n → Calls Tryf.prog 19 #[.int .i64 i, kv, .bool uk] wr fun e w' => e = .returned (.bool (kp i)) ∧ w' = wr) :
    Calls Tryf.prog 10 #[.slice (some ⟨bi, 0, none⟩) n ci, .slice (some ⟨bs, 0, none⟩) (n + 1) cs, .slice (some ⟨bt, 0, none⟩) M ct, .slice (some ⟨bw, 0, none⟩) M cw, .slice ea N ce, .bool directed, kv, .bool uk] w
      fun e w' => e = .returned (.bool true) ∧ Below w.heap.size w w' := by
  have HK : Hid (∀ wr, Below w.heap.size w wr → ∀ i, i < n → Calls Tryf.prog 19 #[.int .i64 i, kv, .bool uk] wr fun e w' => e = .returned (.bool (kp i)) ∧ w' = wr) := hkept
  have HEA : Hid (0 < N → ea = some ⟨be, oe, none⟩) := hea
  have HCOV : Hid (∀ i, i < n → ∃ k, k < N ∧ (F k = i ∨ T k = i)) := hcov
  have HA : Hid (A = arcs directed kp F T W N) := hA
  have HM : Hid (M = A.length) := hM
  have HSM : Hid (st A n = M) := by
    show st A n = M
    rw [hM, hA]; exact st_all _ _ fun a ha => (arcs_src directed kp F T W (n := n) (fun k hk => (S.sF k hk).1) (fun k hk => (S.sT k hk).1) a ha).1
  have hMb : (M : Int) ≤ 1000000 := by
    have := arcs_length directed kp F T W N
    rw [hM, hA]; omega
  clear hkept hea hcov hA hM
  go_enter Tryf.func10, Tryf.ntmps10
  go_wp2
  go_loopw [18] (fun v wr => ∃ j : Nat, v = .int .i64 ((j : Int) + 1) ∧ j ≤ n ∧ Below w.heap.size w wr) (fun v _ => n - (intOf v).toNat)
  case atStart => exact ⟨0, rfl, Nat.zero_le _, Below.refl _ _⟩
  case round =>
    obtain ⟨j, rfl, hj, hb⟩ := hrel
    by_cases hlt : j + 1 < n
    · have c1 := (hb.cell (p := ⟨bi, j, none⟩) S.lbi).trans (S.ids j (by omega))
      have c2 := (hb.cell (p := ⟨bi, j + 1, none⟩) S.lbi).trans (S.ids (j + 1) hlt)
      have hI := S.asc j (j + 1) (by omega) hlt
      have hd : decide (I (j + 1) ≤ I j) = false := by simp; omega
      have hlt' : (j : Int) + 1 < n := by omega
      go_wp2
      go_quiet (fail)
      go_wp2
      go_roundw
      case rel => exact ⟨j + 1, by go_num, by omega, below_drewN hb _⟩
      case measure => simp [intOf]; omega
    · have s0 := (hb.cell (p := ⟨bs, 0, none⟩) S.lbs).trans (S.start 0 (Nat.zero_le _))
      rw [st_zero] at s0
      have hge : ¬ ((j : Int) + 1 < n) := by omega
      clear hlt hj
      go_wp2
      go_loopw [19] (fun v wr => ∃ j : Nat, v = .int .i64 j ∧ j ≤ n ∧ Below w.heap.size w wr) (fun v _ => n - (intOf v).toNat)
      case atStart => exact ⟨0, rfl, Nat.zero_le _, hb⟩
      case round =>
        clear s0 hb hge
        obtain ⟨j, rfl, hj, hb⟩ := hrel
        by_cases hlt : j < n
        · have c1 := (hb.cell (p := ⟨bs, j, none⟩) S.lbs).trans (S.start j (by omega))
          have c2 := (hb.cell (p := ⟨bs, j + 1, none⟩) S.lbs).trans (S.start (j + 1) hlt)
          have hI := st_mono A (i := j) (j := j + 1) (by omega)
          have hd : ¬ ((st A (j + 1) : Int) < st A j) := by omega
          have hlt' : (j : Int) < n := by omega
          go_wp2
          go_quiet (fail)
          go_wp2
          go_roundw
          case rel => exact ⟨j + 1, by go_num, by omega, below_drewN hb _⟩
          case measure => simp [intOf]; omega
        · have s0 := (hb.cell (p := ⟨bs, n, none⟩) S.lbs).trans (S.start n (Nat.le_refl _))
          rw [HSM.out] at s0
          have hn2 : ¬ (2 * (N : Int) < n) := by omega
          have hmk4 := run_make_row' (P := Tryf.prog) 36 4 (.bool false) 1 Tryf.underlying36 info4 rfl .i64 .i64 n (by omega) (by omega)
          have hmk3 := run_make_row' (P := Tryf.prog) 31 3 (.int .i64 0) 8 Tryf.underlying31 info3 rfl .i64 .i64 n (by omega) (by omega)
          have hge : ¬ ((j : Int) < n) := by omega
          obtain ⟨bu, hbu⟩ : ∃ bu, wr.heap.size = bu := ⟨_, rfl⟩
          have hB : w.heap.size ≤ bu := hbu ▸ hb.size
          have START : Hid (Below w.heap.size w ((wr.alloc (.cells (madeCells #[.bool false] n) 4)).alloc (.cells (madeCells #[.int .i64 0] n) 3)) ∧
              ((wr.alloc (.cells (madeCells #[.bool false] n) 4)).alloc (.cells (madeCells #[.int .i64 0] n) 3)).rowIs bu 4 n (fun _ => .bool false) ∧
              ((wr.alloc (.cells (madeCells #[.bool false] n) 4)).alloc (.cells (madeCells #[.int .i64 0] n) 3)).rowIs (bu + 1) 3 n (fun i => .int .i64 (if i < 0 then (st A i : Int) else 0))) := by
            subst hbu
            refine ⟨(hb.alloc hb.size _).alloc (by simp; have := hb.size; omega) _, (World.rowIs_made wr _ n 4).alloc _, ?_⟩
            have h2 := World.rowIs_made (wr.alloc (.cells (madeCells #[.bool false] n) 4)) (.int .i64 0) n 3
            rw [show (wr.alloc (.cells (madeCells #[.bool false] n) 4)).heap.size = wr.heap.size + 1 by simp] at h2
            exact h2.congr (fun i _ => by simp)
          clear hlt hj hb
          go_wp2
          go_loopw [22] (fun v w3 => ∃ j : Nat, v = .int .i64 j ∧ j ≤ n ∧ Below w.heap.size w w3 ∧ w3.rowIs bu 4 n (fun _ => .bool false) ∧ w3.rowIs (bu + 1) 3 n (fun i => .int .i64 (if i < j then (st A i : Int) else 0))) (fun v _ => n - (intOf v).toNat)
          case atStart => exact ⟨0, rfl, Nat.zero_le _, START.out.1, START.out.2.1, START.out.2.2⟩
          case round =>
            clear s0 hge hn2 START hbu hmk3 hmk4
            obtain ⟨j, rfl, hj, hb, hu, hc⟩ := hrel
            by_cases hlt : j < n
            · have c1 := (hb.cell (p := ⟨bs, j, none⟩) S.lbs).trans (S.start j (by omega))
              have c2 := hc.cell hlt
              have f2 := hc.frozen j
              have hlt' : (j : Int) < n := by omega
              go_wp2
              go_roundw
              case rel =>
                refine ⟨j + 1, by go_num, by omega, hb.setCell (by show w.heap.size ≤ bu + 1; omega) _, hu.setOther (by show bu ≠ bu + 1; omega) _, (hc.set j _).congr ?_⟩
                intro i hi
                by_cases e : i = j
                · subst e; simp
                · have : (i < j + 1) ↔ (i < j) := by omega
                  simp [e, this]
              case measure => simp [intOf]; omega
            · have hge : ¬ ((j : Int) < n) := by omega
              have hc' : wr.rowIs (bu + 1) 3 n (fun i => .int .i64 ((st A i : Int) + ((run (arcs directed kp F T W 0) i).length : Int))) := hc.congr (fun i hi => by rw [if_pos (by omega)]; simp [arcs, run_nil])
              clear hlt hj hc
              go_wp2
              go_loopw [23] (fun v w4 => ∃ k : Nat, v = .int .i64 k ∧ k ≤ N ∧ Below w.heap.size w w4 ∧ w4.rowIs bu 4 n (fun i => .bool (usedB F T k i)) ∧ w4.rowIs (bu + 1) 3 n (fun i => .int .i64 ((st A i : Int) + ((run (arcs directed kp F T W k) i).length : Int)))) (fun v _ => N - (intOf v).toNat)
              case atStart => exact ⟨0, rfl, Nat.zero_le _, hb, hu, hc'⟩
              case round =>
                clear hge hb hu hc'
                obtain ⟨k, rfl, hk, hb, hu, hc⟩ := hrel
                by_cases hlt : k < N
                · have hE := HEA.out (by omega)
                  subst hE
                  have lbe := S.lbe (by omega)
                  obtain ⟨hFn, hUF⟩ := S.sF k hlt
                  obtain ⟨hTn, hVT⟩ := S.sT k hlt
                  have cI : ∀ i, i < n → wr.cell? ⟨bi, i, none⟩ = some (.int .i32 (I i)) := fun i hi => (hb.cell (p := ⟨bi, i, none⟩) S.lbi).trans (S.ids i hi)
                  have HCI : Hid (∀ i, i < n → wr.cell? ⟨bi, i, none⟩ = some (.int .i32 (I i))) := cI
                  have eU := (hb.cell (p := ⟨be, oe + k * 3, none⟩) lbe).trans (S.eU k hlt)
                  have eV := (hb.cell (p := ⟨be, oe + k * 3 + 1, none⟩) lbe).trans (S.eV k hlt)
                  rw [hUF] at eU
                  rw [hVT] at eV
                  have cu1 := hu.cell hFn
                  have fu1 := hu.frozen (F k)
                  have cu2 := (hu.set (F k) (.bool true)).cell hTn
                  have fu2 := (hu.set (F k) (.bool true)).frozen (T k)
                  have hlt' : (k : Int) < N := by omega
                  clear cI hUF hVT
                  go_upto_region 33 with (first
                    | (go_at_call_of 18 (Value.int .i32 (I (F k))); refine (find_at n ci bi I (F k) hFn (by omega) S.asc _ HCI.out).mono ?_; rintro e w' ⟨rfl, rfl⟩)
                    | (go_at_call_of 18 (Value.int .i32 (I (T k))); refine (find_at n ci bi I (T k) hTn (by omega) S.asc _ HCI.out).mono ?_; rintro e w' ⟨rfl, rfl⟩))
                  have hb1 := (hb.setCell (p := ⟨bu, F k, none⟩) hB (.bool true)).setCell (p := ⟨bu, T k, none⟩) hB (.bool true)
                  have hu1 := used_step hu
                  have hc1 := (hc.setOther (a := ⟨bu, F k, none⟩) (by show bu + 1 ≠ bu; omega) (.bool true)).setOther (a := ⟨bu, T k, none⟩) (by show bu + 1 ≠ bu; omega) (.bool true)
                  clear cu1 fu1 cu2 fu2 eU eV HCI hu hc hb
                  generalize ((w'.setCell ⟨bu, F k, none⟩ (.bool true)).setCell ⟨bu, T k, none⟩ (.bool true)) = w1 at hb1 hu1 hc1 ⊢
                  go_upto_if 142 with (go_at_call 19; refine (HK.out _ hb1 (F k) hFn).mono ?_; rintro e w' ⟨rfl, rfl⟩)
                  obtain ⟨K, hK⟩ := arcs_split (directed := directed) (kp := kp) (F := F) (T := T) (W := W) hlt
                  have HKK : Hid (A = arcs directed kp F T W k ++ (ones directed kp F T W k ++ K)) := HA.out.trans hK
                  clear hK
                  go_cut [] from 107 to 231 (fun w2 => Below w.heap.size w w2 ∧ w2.rowIs bu 4 n (fun i => .bool (usedB F T (k + 1) i)) ∧ w2.rowIs (bu + 1) 3 n (fun i => .int .i64 ((st A i : Int) + ((run (arcs directed kp F T W k ++ half kp F T W k) i).length : Int))))
                  case first =>
                    cases hkF : kp (F k) with
                    | false =>
                      have hc2 : w'.rowIs (bu + 1) 3 n (fun i => .int .i64 ((st A i : Int) + ((run (arcs directed kp F T W k ++ half kp F T W k) i).length : Int))) := by simpa [half, hkF] using hc1
                      go_wp2
                      go_meet
                      case rel => exact ⟨hb1, hu1, hc2⟩
                    | true =>
                      obtain ⟨hl, hp⟩ := pick (A := A) (L := arcs directed kp F T W k) (K := (if (!directed && (F k != T k)) && kp (T k) then [(T k, F k, W k)] else []) ++ K) (a := F k) (p := (T k, W k)) (by rw [HKK.out]; simp [ones, hkF])
                      obtain ⟨c0, h0⟩ : ∃ c0, c0 = st A (F k) + (run (arcs directed kp F T W k) (F k)).length := ⟨_, rfl⟩
                      have cc := hc1.cell hFn
                      rw [show (st A (F k) : Int) + ((run (arcs directed kp F T W k) (F k)).length : Int) = (c0 : Int) by omega] at cc
                      have fc := hc1.frozen (F k)
                      have cs := (hb1.cell (p := ⟨bs, F k + 1, none⟩) S.lbs).trans (S.start (F k + 1) hFn)
                      have ct := (hb1.cell (p := ⟨bt, st A (F k) + (run (arcs directed kp F T W k) (F k)).length, none⟩) S.lbt).trans (S.tgt (F k) _ hFn hl)
                      have cw := (hb1.cell (p := ⟨bw, st A (F k) + (run (arcs directed kp F T W k) (F k)).length, none⟩) S.lbw).trans (S.wgt (F k) _ hFn hl)
                      rw [hp] at ct cw
                      rw [← h0] at ct cw
                      simp only at ct cw
                      have ew := (hb1.cell (p := ⟨be, oe + k * 3 + 2, none⟩) lbe).trans (S.eW k hlt)
                      have hs1 := st_succ A (F k)
                      have hle : decide (st A (F k + 1) ≤ c0) = false := by simp; omega
                      have hcM : c0 < M := by have := place_lt A (F k) _ n hFn hl; rw [HSM.out] at this; omega
                      have hTs : (T k : Int) ≤ 1000000 := by omega
                      have hcM' : (c0 : Int) < (M : Int) := by omega
                      have hFi : (F k : Int) < (n : Int) := by omega
                      have hFi1 : (F k : Int) + 1 < (n : Int) + 1 := by omega
                      have hc2 : (w'.setCell ⟨bu + 1, F k, none⟩ (.int .i64 ((c0 : Int) + 1))).rowIs (bu + 1) 3 n (fun i => .int .i64 ((st A i : Int) + ((run (arcs directed kp F T W k ++ half kp F T W k) i).length : Int))) := by
                        rw [show half kp F T W k = [(F k, T k, W k)] by simp [half, hkF]]
                        exact cur_step hc1 h0
                      have HC2 : Hid ((w'.setCell ⟨bu + 1, F k, none⟩ (.int .i64 ((c0 : Int) + 1))).rowIs (bu + 1) 3 n (fun i => .int .i64 ((st A i : Int) + ((run (arcs directed kp F T W k ++ half kp F T W k) i).length : Int)))) := hc2
                      clear hs1 hp hl h0 hc2
                      go_wp2
                      go_quiet ((go_at_call 20; exact Calls.quiet_of_same (sameFloat_self _ _)))
                      go_wp2
                      go_meet
                      case rel => exact ⟨(below_drewN hb1 _).setCell (by show w.heap.size ≤ bu + 1; omega) _, (hu1.of_block (w' := w'.drewN nq) rfl).setOther (by show bu ≠ bu + 1; omega) _, HC2.out.of_block rfl⟩
                  case rest =>
                    clear hb1 hu1 hc1
                    obtain ⟨hb1, hu1, hc1⟩ := hcut
                    have hne : ((F k : Int) != (T k : Int)) = (F k != T k) := by
                      rw [Bool.eq_iff_iff]; simp; omega
                    have CLOSE : Hid (∀ wx : World, Below w.heap.size w wx → wx.rowIs bu 4 n (fun i => .bool (usedB F T (k + 1) i)) → wx.rowIs (bu + 1) 3 n (fun i => .int .i64 ((st A i : Int) + ((run (arcs directed kp F T W (k + 1)) i).length : Int))) →
                        ∃ k' : Nat, Value.int .i64 ((k : Int) + 1) = .int .i64 k' ∧ k' ≤ N ∧ Below w.heap.size w wx ∧ wx.rowIs bu 4 n (fun i => .bool (usedB F T k' i)) ∧ wx.rowIs (bu + 1) 3 n (fun i => .int .i64 ((st A i : Int) + ((run (arcs directed kp F T W k') i).length : Int)))) :=
                      fun wx h1 h2 h3 => ⟨k + 1, by go_num, hlt, h1, h2, h3⟩
                    cases hD : directed with
                    | true =>
                      have hc2 : wc.rowIs (bu + 1) 3 n (fun i => .int .i64 ((st A i : Int) + ((run (arcs directed kp F T W (k + 1)) i).length : Int))) := by
                        refine hc1.congr fun i _ => ?_
                        rw [show arcs directed kp F T W (k + 1) = arcs directed kp F T W k ++ half kp F T W k by simp [arcs, ones, half, hD]]
                      subst hD
                      go_wp2
                      go_roundw
                      case rel => exact CLOSE.out _ hb1 hu1 hc2
                      case measure => simp [intOf]; omega
                    | false =>
                      subst hD
                      have hFi : (F k : Int) < (n : Int) := by omega
                      have hTi : (T k : Int) < (n : Int) := by omega
                      by_cases hFT : F k = T k
                      · have hq : ((F k : Int) != (T k : Int)) = false := by rw [hne]; simp [hFT]
                        have hq' : (F k != T k) = false := by simp [hFT]
                        have hc2 : wc.rowIs (bu + 1) 3 n (fun i => .int .i64 ((st A i : Int) + ((run (arcs false kp F T W (k + 1)) i).length : Int))) := by
                          refine hc1.congr fun i _ => ?_
                          rw [show arcs false kp F T W (k + 1) = arcs false kp F T W k ++ half kp F T W k by simp [arcs, ones, half, hFT]]
                        clear hne hFT
                        go_wp2
                        go_roundw
                        case rel => exact CLOSE.out _ hb1 hu1 hc2
                        case measure => simp [intOf]; omega
                      · have hq : ((F k : Int) != (T k : Int)) = true := by rw [hne]; simp [hFT]
                        have hq' : (F k != T k) = true := by simp [hFT]
                        clear hne
                        have HFT : Hid (¬ F k = T k) := hFT
                        clear hFT
                        go_upto_if 193 with (go_at_call 19; refine (HK.out _ hb1 (T k) hTn).mono ?_; rintro e w' ⟨rfl, rfl⟩)
                        cases hkT : kp (T k) with
                        | false =>
                          have hc2 : w'.rowIs (bu + 1) 3 n (fun i => .int .i64 ((st A i : Int) + ((run (arcs false kp F T W (k + 1)) i).length : Int))) := by
                            refine hc1.congr fun i _ => ?_
                            rw [show arcs false kp F T W (k + 1) = arcs false kp F T W k ++ half kp F T W k by simp [arcs, ones, half, hkT]]
                          go_wp2
                          go_roundw
                          case rel => exact CLOSE.out _ hb1 hu1 hc2
                          case measure => simp [intOf]; omega
                        | true =>
                          obtain ⟨hl, hp⟩ := pick (A := A) (L := arcs false kp F T W k ++ half kp F T W k) (K := K) (a := T k) (p := (F k, W k)) (by rw [HKK.out]; simp [ones, half, hkT, HFT.out])
                          obtain ⟨c0, h0⟩ : ∃ c0, c0 = st A (T k) + (run (arcs false kp F T W k ++ half kp F T W k) (T k)).length := ⟨_, rfl⟩
                          have cc := hc1.cell hTn
                          rw [show (st A (T k) : Int) + ((run (arcs false kp F T W k ++ half kp F T W k) (T k)).length : Int) = (c0 : Int) by omega] at cc
                          have fc := hc1.frozen (T k)
                          have cs := (hb1.cell (p := ⟨bs, T k + 1, none⟩) S.lbs).trans (S.start (T k + 1) hTn)
                          have ct := (hb1.cell (p := ⟨bt, st A (T k) + (run (arcs false kp F T W k ++ half kp F T W k) (T k)).length, none⟩) S.lbt).trans (S.tgt (T k) _ hTn hl)
                          have cw := (hb1.cell (p := ⟨bw, st A (T k) + (run (arcs false kp F T W k ++ half kp F T W k) (T k)).length, none⟩) S.lbw).trans (S.wgt (T k) _ hTn hl)
                          rw [hp] at ct cw
                          rw [← h0] at ct cw
                          simp only at ct cw
                          have ew := (hb1.cell (p := ⟨be, oe + k * 3 + 2, none⟩) lbe).trans (S.eW k hlt)
                          have hs1 := st_succ A (T k)
                          have hle : decide (st A (T k + 1) ≤ c0) = false := by simp; omega
                          have hcM : c0 < M := by have := place_lt A (T k) _ n hTn hl; rw [HSM.out] at this; omega
                          have hFs : (F k : Int) ≤ 1000000 := by omega
                          have hcM' : (c0 : Int) < (M : Int) := by omega
                          have hTi1 : (T k : Int) + 1 < (n : Int) + 1 := by omega
                          have HC2 : Hid ((w'.setCell ⟨bu + 1, T k, none⟩ (.int .i64 ((c0 : Int) + 1))).rowIs (bu + 1) 3 n (fun i => .int .i64 ((st A i : Int) + ((run (arcs false kp F T W (k + 1)) i).length : Int)))) := by
                            show World.rowIs _ _ _ _ _
                            rw [show arcs false kp F T W (k + 1) = (arcs false kp F T W k ++ half kp F T W k) ++ [(T k, F k, W k)] by simp [arcs, ones, half, hkT, HFT.out]]
                            exact cur_step hc1 h0
                          clear hs1 hp hl h0
                          go_wp2
                          go_quiet ((go_at_call 20; exact Calls.quiet_of_same (sameFloat_self _ _)))
                          go_wp2
                          go_roundw
                          case rel => exact CLOSE.out _ ((below_drewN hb1 _).setCell (by show w.heap.size ≤ bu + 1; omega) _) ((hu1.of_block (w' := w'.drewN nq) rfl).setOther (by show bu ≠ bu + 1; omega) _) (HC2.out.of_block rfl)
                          case measure => simp [intOf]; omega
                · have hge : ¬ ((k : Int) < N) := by omega
                  obtain rfl : k = N := by omega
                  have hc' : wr.rowIs (bu + 1) 3 n (fun i => .int .i64 (st A (i + 1))) := hc.congr fun i hi => by rw [← HA.out, st_succ]; exact congrArg _ (by omega)
                  have hu' : wr.rowIs bu 4 n (fun _ => .bool true) := hu.congr fun i hi => by
                    obtain ⟨k', h1, h2⟩ := HCOV.out i hi
                    rw [usedB_of h1 h2]
                  clear hlt hk hc hu
                  go_wp2
                  go_loopw [28] (fun v w5 => ∃ j : Nat, v = .int .i64 j ∧ j ≤ n ∧ Below w.heap.size w w5 ∧ w5.rowIs bu 4 n (fun _ => .bool true) ∧ w5.rowIs (bu + 1) 3 n (fun i => .int .i64 (st A (i + 1)))) (fun v _ => n - (intOf v).toNat)
                  case atStart => exact ⟨0, rfl, Nat.zero_le _, hb, hu', hc'⟩
                  case round =>
                    clear hge hb hu' hc'
                    obtain ⟨j, rfl, hj, hb, hu, hc⟩ := hrel
                    by_cases hlt : j < n
                    · have c1 := hu.cell hlt
                      have c2 := hc.cell hlt
                      have c3 := (hb.cell (p := ⟨bs, j + 1, none⟩) S.lbs).trans (S.start (j + 1) hlt)
                      have hlt' : (j : Int) < n := by omega
                      have hlt1 : (j : Int) + 1 < (n : Int) + 1 := by omega
                      go_wp2
                      go_quiet (fail)
                      go_wp2
                      go_roundw
                      case rel => exact ⟨j + 1, by go_num, by omega, below_drewN hb _, hu.of_block rfl, hc.of_block rfl⟩
                      case measure => simp [intOf]; omega
                    · have hge : ¬ ((j : Int) < n) := by omega
                      go_wp2
                      go_ret
                      exact ⟨rfl, hb⟩
end Go.Proofs.Qxb6616522aFmt
