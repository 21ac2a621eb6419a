/-
  THE WALK OF Builder.Graph.
-/
import Derived.Test.Qxb6616522aFmtGraphA
namespace Go.Proofs.Qxb6616522aFmt
open Go.RowKit Go.Sort Go.Lib

/-- What a call of Builder.Graph ends in. -/
def GraphPost (w : World) (N : Nat) (U V : Nat → Int) (W : Nat → Nat) (directed : Bool) (e : Ending) (w' : World) : Prop :=
  ∃ n M bg bi bs bt bw I F T, e = .returned (.pointer (some ⟨bg, 0, none⟩)) ∧ Below w.heap.size w w' ∧ Built w' n N M bg bi bs bt bw I U V W F T (arcs directed (fun _ => true) F T W N)

set_option maxHeartbeats 4000000 in
set_option maxRecDepth 100000 in
theorem graph_at (w : World) (b N : Nat) (vf vt vw : Value) (U V : Nat → Int) (W : Nat → Nat) (directed : Bool)
    (h : Bld b N ((List.range N).map fun k => .int .i32 (U k)) ((List.range N).map fun k => .int .i32 (V k)) ((List.range N).map fun k => .float .f64 (W k)) vf vt vw w)
    (hnil : N = 0 → vf = .slice none 0 0 ∧ vt = .slice none 0 0 ∧ vw = .slice none 0 0) (hN : N ≤ 65536) :
    Calls Tryf.prog 17 #[.pointer (some ⟨b, 0, none⟩), .bool directed] w fun e w' => GraphPost w N U V W directed e w' := by
  have hlt := lt_of_blk h.blk
  have c0 : w.cell? ⟨b, 0, none⟩ = some vf := by rw [cell_of_row _ _ _ _ _ _ h.blk]; rfl
  have c1 : w.cell? ⟨b, 1, none⟩ = some vt := by rw [cell_of_row _ _ _ _ _ _ h.blk]; rfl
  have c2 : w.cell? ⟨b, 2, none⟩ = some vw := by rw [cell_of_row _ _ _ _ _ _ h.blk]; rfl
  obtain ⟨fo, cf, gf, rfl, hf1, hf2, hf3⟩ := row_view h.f (fun e => (hnil e).1)
  obtain ⟨to_, ct, gt, rfl, ht1, ht2, ht3⟩ := row_view h.t (fun e => (hnil e).2.1)
  obtain ⟨wo, cw, gw, rfl, hw1, hw2, hw3⟩ := row_view h.g (fun e => (hnil e).2.2)
  clear h hnil
  have KF : Hid (∀ k, k < N → w.cell? ⟨gf, k, none⟩ = some (.int .i32 (U k))) := fun k hk => by rw [hf3 k hk]; simp [hk]
  have KT : Hid (∀ k, k < N → w.cell? ⟨gt, k, none⟩ = some (.int .i32 (V k))) := fun k hk => by rw [ht3 k hk]; simp [hk]
  have KW : Hid (∀ k, k < N → w.cell? ⟨gw, k, none⟩ = some (.float .f64 (W k))) := fun k hk => by rw [hw3 k hk]; simp [hk]
  have F1 : Hid ((0 < N → fo = some ⟨gf, 0, none⟩ ∧ gf < w.heap.size) ∧ (N = 0 → fo = none ∧ cf = 0)) := ⟨hf1, hf2⟩
  have T1 : Hid ((0 < N → to_ = some ⟨gt, 0, none⟩ ∧ gt < w.heap.size) ∧ (N = 0 → to_ = none ∧ ct = 0)) := ⟨ht1, ht2⟩
  have W1 : Hid ((0 < N → wo = some ⟨gw, 0, none⟩ ∧ gw < w.heap.size) ∧ (N = 0 → wo = none ∧ cw = 0)) := ⟨hw1, hw2⟩
  clear hf1 hf2 hf3 ht1 ht2 ht3 hw1 hw2 hw3
  obtain ⟨i1, hi1, hz10, hz11, hz12⟩ := info_parts info21
  have hmk := run_make (P := Tryf.prog) w 30 21 i1 (.int .i32 0) Tryf.underlying30 hi1 hz10 .i64 .i64 0 (2 * (N : Int)) (by omega) (by omega) (by rw [hz12]; omega) (by omega)
  obtain ⟨H, hH⟩ : ∃ H, H = w.heap.size := ⟨_, rfl⟩
  have hbH : b < H := by omega
  have hmk0 : madeCells (Value.cells (.int .i32 0)) (2 * N) = madeCells #[.int .i32 0] (2 * N) := rfl
  obtain ⟨wa, hwa⟩ : ∃ wa, w.alloc (.cells (madeCells #[.int .i32 0] (2 * N)) 21) = wa := ⟨_, rfl⟩
  have hmk' : (Instr.makeSlice 30 (.int .i64 0) (.int .i64 (2 * (N : Int)))).run Tryf.prog w = .ok (.slice (some ⟨H, 0, none⟩) 0 (2 * N)) wa := by
    rw [hmk, ← hwa, hH, hz11, show (2 * (N : Int)).toNat = 2 * N by omega, Nat.mul_one, hmk0]; rfl
  have hb1 : Below H w wa := by rw [← hwa]; exact (Below.refl _ _).alloc (by omega) _
  have hr1 : wa.rowIs H 21 (2 * N) (fun _ => .int .i32 0) := by rw [← hwa, hH]; exact World.rowIs_made w _ _ _
  have a0 := (hb1.cell (p := ⟨b, 0, none⟩) hbH).trans c0
  have a1 := (hb1.cell (p := ⟨b, 1, none⟩) hbH).trans c1
  have HB1 : Hid (Below H w wa) := hb1
  have HR1 : Hid (wa.rowIs H 21 (2 * N) (fun _ => .int .i32 0)) := hr1
  have HH : Hid (H = w.heap.size) := hH
  clear hmk hwa hb1 hr1 hH hmk0
  go_enter Tryf.func17, Tryf.ntmps17
  go_wp2
  go_cut [5] from 22 to 32 (fun s wx => s = .slice (some ⟨H, 0, none⟩) (2 * N) (2 * N) ∧ Below H w wx ∧ Holds enc32 wx H 0 ((List.range N).map U ++ (List.range N).map V).toArray ∧ H < wx.heap.size)
  case first =>
    rcases Nat.eq_zero_or_pos N with h0 | h0
    · subst h0
      obtain ⟨rfl, rfl⟩ := F1.out.2 rfl
      obtain ⟨rfl, rfl⟩ := T1.out.2 rfl
      go_region
      all_goals (go_wp2; go_meet; exact ⟨rfl, HB1.out.drew, fun j hj => absurd hj (by simp), HR1.out.lt⟩)
    · have hH := HH.out
      obtain ⟨rfl, hgf⟩ := F1.out.1 h0
      obtain ⟨rfl, hgt⟩ := T1.out.1 h0
      obtain ⟨n1, hn1⟩ : ∃ n1, n1 = (List.range N).map fun k => Value.int .i32 (U k) := ⟨_, rfl⟩
      obtain ⟨n2, hn2⟩ : ∃ n2, n2 = (List.range N).map fun k => Value.int .i32 (V k) := ⟨_, rfl⟩
      have s1 : n1.length = N * 1 := by rw [hn1]; simp
      have s2 : n2.length = N * 1 := by rw [hn2]; simp
      obtain ⟨p1, p2, p3, p4, p5⟩ := two_puts U V HB1.out HR1.out hn1 hn2
      have hc1 : Hid (∀ j u, n1[j]? = some u → wa.cell? ((⟨gf, 0, none⟩ : Addr).add j) = some u) := fun j u hu => by
        rw [add_zero_off, HB1.out.cell (p := ⟨gf, j, none⟩) (by show gf < H; omega)]
        have hj : j < N := by have := (List.getElem?_eq_some_iff.1 hu).1; omega
        rw [KF.out j hj, ← hu, hn1]; simp [hj]
      have hs1 : Hid (∀ j, j < n1.length → (wa.cell? ⟨H, 0 + 0 * 1 + j, none⟩).isSome = true ∧ wa.frozen? ⟨H, 0 + 0 * 1 + j, none⟩ = false) := fun j hj => by
        rw [show 0 + 0 * 1 + j = j by omega, HR1.out.cell (by omega)]; exact ⟨rfl, HR1.out.frozen _⟩
      have ho1 : Hid (∀ u ∈ n1, u.oneCell' = true) := fun u hu => by rw [hn1, List.mem_map] at hu; obtain ⟨_, _, rfl⟩ := hu; rfl
      have ho2 : Hid (∀ u ∈ n2, u.oneCell' = true) := fun u hu => by rw [hn2, List.mem_map] at hu; obtain ⟨_, _, rfl⟩ := hu; rfl
      have hc2 : Hid (∀ j u, n2[j]? = some u → (wa.drew.setCells H 0 n1).cell? ((⟨gt, 0, none⟩ : Addr).add j) = some u) := fun j u hu => by
        rw [add_zero_off, p1 _ (by show gt ≠ H; omega), HB1.out.cell (p := ⟨gt, j, none⟩) (by show gt < H; omega)]
        have hj : j < N := by have := (List.getElem?_eq_some_iff.1 hu).1; omega
        rw [KT.out j hj, ← hu, hn2]; simp [hj]
      have hs2 : Hid (∀ j, j < n2.length → ((wa.drew.setCells H 0 n1).cell? ⟨H, 0 + (0 + N) * 1 + j, none⟩).isSome = true ∧ (wa.drew.setCells H 0 n1).frozen? ⟨H, 0 + (0 + N) * 1 + j, none⟩ = false) := fun j hj => by
        rw [show 0 + (0 + N) * 1 + j = N + j by omega]; exact p2 j hj
      have a1' : (wa.drew.setCells H 0 n1).cell? ⟨b, 1, none⟩ = some (.slice (some ⟨gt, 0, none⟩) N ct) := (p1 _ (by show b ≠ H; omega)).trans a1
      have P3 : Hid (Below H w ((wa.drew.setCells H 0 n1).setCells H N n2) ∧ Holds enc32 ((wa.drew.setCells H 0 n1).setCells H N n2) H 0 ((List.range N).map U ++ (List.range N).map V).toArray ∧ H < ((wa.drew.setCells H 0 n1).setCells H N n2).heap.size) := ⟨p3, p4, p5⟩
      clear p1 p2 p3 p4 p5
      clear hn1 hn2 hH
      go_region_law (first
        | (refine step_append_room rfl (.tmp 22) (.tmp 26) 30 rfl 21 i1 1 Tryf.underlying30 hi1 hz11 H 0 0 (2 * N) (by simp [Act.eval]) ⟨gf, 0, none⟩ N cf n1 (by simp [Act.eval]) s1 hc1.out ho1.out (by omega) hs1.out ?_)
        | (refine step_append_room rfl (.tmp 27) (.tmp 31) 30 rfl 21 i1 1 Tryf.underlying30 hi1 hz11 H 0 (0 + N) (2 * N) (by simp [Act.eval]) ⟨gt, 0, none⟩ N ct n2 (by simp [Act.eval]) s2 hc2.out ho2.out (by omega) hs2.out ?_))
      all_goals (go_wp2; go_meet; exact ⟨by rw [show N + N = 2 * N by omega], P3.out⟩)
  case rest =>
    obtain ⟨rfl, hbx, hHx, hltx⟩ := hcut
    obtain ⟨wx, hwx⟩ : ∃ wx, wx = wc := ⟨_, rfl⟩
    subst hwx
    obtain ⟨L, hL⟩ : ∃ L, L = (List.range N).map U ++ (List.range N).map V := ⟨_, rfl⟩
    rw [← hL] at hHx
    have hLs : L.length = 2 * N := by rw [hL]; simp; omega
    have hSs : (Sort.sort ltInt L.toArray).size = 2 * N := by rw [sort_size, hLs]
    have hC0 := ids_facts L
    obtain ⟨n, hn⟩ : ∃ n, n = (idsOf L).length := ⟨_, rfl⟩
    obtain ⟨I, hI⟩ : ∃ I : Nat → Int, I = fun i => (idsOf L).getD i 0 := ⟨_, rfl⟩
    have hsort : Hid (Calls Tryf.prog 24 #[.slice (some ⟨H, 0, none⟩) (2 * N) (2 * N)] wx fun e w' => e = .returned (.tuple #[]) ∧ ∃ n os, w' = grow (putRow enc32 (Sort.ahead wx n) H 0 (Sort.sort ltInt L.toArray)) os) := by
      have := sort_i32 H 0 (2 * N) L.toArray wx hHx hltx (by simp; omega)
      rwa [show L.toArray.size = 2 * N by simp [hLs]] at this
    have HX : Hid (Below H w wx ∧ Holds enc32 wx H 0 L.toArray ∧ H < wx.heap.size) := ⟨hbx, hHx, hltx⟩
    have HLL : Hid (L.length = 2 * N ∧ (Sort.sort ltInt L.toArray).size = 2 * N ∧ L = (List.range N).map U ++ (List.range N).map V ∧ n = (idsOf L).length ∧ I = fun i => (idsOf L).getD i 0) := ⟨hLs, hSs, hL, hn, hI⟩
    clear hbx hHx hltx hLs hSs hL hn hI hC0 a0 a1 hmk'
    go_wp2_with (go_at_call 24; refine hsort.out.mono ?_)
    rintro e w1 ⟨rfl, q1, os, hw1⟩
    have hW := fun q2 => ids_world (q := q2) HX.out.1 (Nat.le_refl H) HX.out.2.2 HX.out.2.1 w1 _ hw1 rfl
    have hcomp : Hid (Calls Tryf.prog 26 #[.slice (some ⟨H, 0, none⟩) (2 * N) (2 * N)] w1 fun e w' => e = .returned (.slice (some ⟨H, 0, none⟩) n (2 * N)) ∧ Below H w w' ∧ (∀ i, i < n → w'.cell? ⟨H, i, none⟩ = some (.int .i32 (I i))) ∧ H < w'.heap.size) := by
      have := compact_i32 H 0 (2 * N) _ w1 (hW 0).2.2.2 (by rw [HLL.out.2.1]; omega) (by rw [HLL.out.2.1]; omega)
      rw [HLL.out.2.1] at this
      refine this.mono ?_
      rintro e w' ⟨rfl, q2, hw2⟩
      have hE : compactUpTo (Sort.sort ltInt L.toArray) (2 * N) = idsOf L := by unfold idsOf; rw [HLL.out.2.1]
      rw [hE] at hw2 ⊢
      have hz := hW q2
      rw [HLL.out.2.1, ← hw2] at hz
      refine ⟨by rw [HLL.out.2.2.2.1], hz.1, ?_, hz.2.2.1⟩
      rw [HLL.out.2.2.2.1, HLL.out.2.2.2.2]
      exact hz.2.1
    clear hW hw1
    have hn2 : n ≤ 2 * N := by have := (ids_facts L).1; have := HLL.out; omega
    go_wp2_with (go_at_call 26; refine hcomp.out.mono ?_)
    rintro e w2 ⟨rfl, hb2, hi2, hl2⟩
    clear hcomp hsort HX
    go_wp2_with (go_at_call 25; refine (clip_at n (2 * N) ⟨H, 0, none⟩ hn2 _).mono ?_)
    rintro e wB ⟨rfl, rfl⟩
    obtain ⟨hasc, F, T, hF, hT, hcov⟩ := places HLL.out.2.2.1 HLL.out.2.2.2.1 HLL.out.2.2.2.2
    have HIX : Hid (Asc n I ∧ (∀ k, k < N → F k < n ∧ U k = I (F k)) ∧ (∀ k, k < N → T k < n ∧ V k = I (T k)) ∧ (∀ i, i < n → ∃ k, k < N ∧ (F k = i ∨ T k = i))) := ⟨hasc, hF, hT, hcov⟩
    have HW2 : Hid (Below H w wB ∧ (∀ i, i < n → wB.cell? ⟨H, i, none⟩ = some (.int .i32 (I i))) ∧ H < wB.heap.size) := ⟨hb2, hi2, hl2⟩
    obtain ⟨B5, hB5⟩ : ∃ B5, wB.heap.size = B5 := ⟨_, rfl⟩
    have hBH : H < B5 := hB5 ▸ hl2
    have d0 := (hb2.cell (p := ⟨b, 0, none⟩) hbH).trans c0
    have d1 := (hb2.cell (p := ⟨b, 1, none⟩) hbH).trans c1
    have hmkN := run_make_row' (P := Tryf.prog) 30 21 (.int .i32 0) 4 Tryf.underlying30 info21 rfl .i64 .i64 N (by omega) (by omega)
    clear hasc hF hT hcov hb2 hi2 hl2 HLL
    have START : Hid (Below B5 wB ((wB.alloc (.cells (madeCells #[.int .i32 0] N) 21)).alloc (.cells (madeCells #[.int .i32 0] N) 21)) ∧
        ((wB.alloc (.cells (madeCells #[.int .i32 0] N) 21)).alloc (.cells (madeCells #[.int .i32 0] N) 21)).rowIs B5 21 N (fun k => .int .i32 (if k < 0 then (F k : Int) else 0)) ∧
        ((wB.alloc (.cells (madeCells #[.int .i32 0] N) 21)).alloc (.cells (madeCells #[.int .i32 0] N) 21)).rowIs (B5 + 1) 21 N (fun k => .int .i32 (if k < 0 then (T k : Int) else 0))) := by
      subst hB5
      refine ⟨((Below.refl _ _).alloc (Nat.le_refl _) _).alloc (by simp) _, ((World.rowIs_made wB _ N 21).alloc _).congr (fun i _ => by simp), ?_⟩
      have h2 := World.rowIs_made (wB.alloc (.cells (madeCells #[.int .i32 0] N) 21)) (.int .i32 0) N 21
      rw [show (wB.alloc (.cells (madeCells #[.int .i32 0] N) 21)).heap.size = wB.heap.size + 1 by simp] at h2
      exact h2.congr (fun i _ => by simp)
    have hbB : b < B5 := by omega
    have e1 := ((((Below.refl B5 wB).alloc (Nat.le_of_eq hB5.symm) (.cells (madeCells #[.int .i32 0] N) 21))).cell (p := ⟨b, 1, none⟩) hbB).trans d1
    have e0 := (START.out.1.cell (p := ⟨b, 0, none⟩) hbB).trans d0
    go_wp2
    go_loopw [8, 55] (fun _ v wr => ∃ j : Nat, v = .int .i64 j ∧ j ≤ N ∧ Below B5 wB wr ∧ wr.rowIs B5 21 N (fun k => .int .i32 (if k < j then (F k : Int) else 0)) ∧ wr.rowIs (B5 + 1) 21 N (fun k => .int .i32 (if k < j then (T k : Int) else 0))) (fun _ v _ => N - (intOf v).toNat)
    case atStart => exact ⟨0, rfl, Nat.zero_le _, START.out⟩
    case round =>
      clear START hmkN
      obtain ⟨j, rfl, hj, hb, hrF, hrT⟩ := hrel
      by_cases hlt : j < N
      · have hlt' : (j : Int) < N := by omega
        have p0 := (hb.cell (p := ⟨b, 0, none⟩) hbB).trans d0
        have p1 := (hb.cell (p := ⟨b, 1, none⟩) hbB).trans d1
        obtain ⟨rfl, hgf⟩ := F1.out.1 (by omega)
        obtain ⟨rfl, hgt⟩ := T1.out.1 (by omega)
        have hHH := HH.out
        have k0 := ((hb.cell (p := ⟨gf, j, none⟩) (by show gf < B5; omega)).trans (HW2.out.1.cell (p := ⟨gf, j, none⟩) (by show gf < H; omega))).trans (KF.out j hlt)
        have k1 := ((hb.cell (p := ⟨gt, j, none⟩) (by show gt < B5; omega)).trans (HW2.out.1.cell (p := ⟨gt, j, none⟩) (by show gt < H; omega))).trans (KT.out j hlt)
        rw [(HIX.out.2.1 j hlt).2] at k0
        rw [(HIX.out.2.2.1 j hlt).2] at k1
        have r0 := hrF.cell hlt
        have r1 := hrT.cell hlt
        have f0 := hrF.frozen j
        have f1 := hrT.frozen j
        have hids : ∀ wr', Below B5 wB wr' → ∀ i, i < n → wr'.cell? ⟨H, i, none⟩ = some (.int .i32 (I i)) := fun wr' h i hi => (h.cell (p := ⟨H, i, none⟩) hBH).trans (HW2.out.2.1 i hi)
        have HIDS : Hid (∀ wr', Below B5 wB wr' → ∀ i, i < n → wr'.cell? ⟨H, i, none⟩ = some (.int .i32 (I i))) := hids
        have hFj := (HIX.out.2.1 j hlt).1
        have hTj := (HIX.out.2.2.1 j hlt).1
        have hb1 := hb.setCell (p := ⟨B5, j, none⟩) (Nat.le_refl _) (.int .i32 (F j))
        have q1 := (heap_setCell_cell wr (b := B5) (i := j) (.int .i32 (F j)) (show b ≠ B5 by omega) 1).trans p1
        have q2 := (heap_setCell_cell wr (b := B5) (i := j) (.int .i32 (F j)) (show gt ≠ B5 by omega) j).trans k1
        have q3 := (heap_setCell_cell wr (b := B5) (i := j) (.int .i32 (F j)) (show B5 + 1 ≠ B5 by omega) j).trans r1
        have HD : Hid (w.cell? ⟨b, 2, none⟩ = some (.slice wo N cw)) := c2
        have CLOSE : Hid (∃ j' : Nat, Value.int .i64 ((j : Int) + 1) = .int .i64 j' ∧ j' ≤ N ∧ Below B5 wB ((wr.setCell ⟨B5, j, none⟩ (.int .i32 (F j))).setCell ⟨B5 + 1, j, none⟩ (.int .i32 (T j))) ∧
            ((wr.setCell ⟨B5, j, none⟩ (.int .i32 (F j))).setCell ⟨B5 + 1, j, none⟩ (.int .i32 (T j))).rowIs B5 21 N (fun k => .int .i32 (if k < j' then (F k : Int) else 0)) ∧
            ((wr.setCell ⟨B5, j, none⟩ (.int .i32 (F j))).setCell ⟨B5 + 1, j, none⟩ (.int .i32 (T j))).rowIs (B5 + 1) 21 N (fun k => .int .i32 (if k < j' then (T k : Int) else 0))) := by
          refine ⟨j + 1, by go_num, hlt, hb1.setCell (p := ⟨B5 + 1, j, none⟩) (by show B5 ≤ B5 + 1; omega) _, ((hrF.set j _).setOther (by show B5 ≠ B5 + 1; omega) _).congr (fun i _ => ?_), ((hrT.setOther (by show B5 + 1 ≠ B5; omega) _).set j _).congr (fun i _ => ?_)⟩
          · exact step_fill i j F
          · exact step_fill i j T
        clear hids hHH c0 c1 c2 d0 d1 hrF hrT
        go_upto_region 11 with (go_at_call 27; refine (index_at n n H I (F j) hFj (by omega) HIX.out.1 _ (HIDS.out _ hb)).mono ?_; rintro e wr1 ⟨rfl, rfl⟩)
        clear k0 r0 p0 p1 k1 r1
        go_wp2_with (go_at_call 27; refine (index_at n n H I (T j) hTj (by omega) HIX.out.1 _ (HIDS.out _ hb1)).mono ?_; rintro e wr1 ⟨rfl, rfl⟩)
        go_roundw
        case rel => exact CLOSE.out
        case measure => simp [intOf]; omega
      · have hge : ¬ ((j : Int) < N) := by omega
        obtain rfl : N = j := by omega
        have hrF' : wr.rowIs B5 21 N (fun k => .int .i32 (F k)) := hrF.congr fun k hk => by rw [if_pos hk]
        have hrT' : wr.rowIs (B5 + 1) 21 N (fun k => .int .i32 (T k)) := hrT.congr fun k hk => by rw [if_pos hk]
        obtain ⟨wC, hwC⟩ : ∃ wC, wC = wr := ⟨_, rfl⟩
        subst hwC
        obtain ⟨bs, hbs⟩ : ∃ bs, wC.heap.size = bs := ⟨_, rfl⟩
        have hBs : B5 + 1 < bs := hbs ▸ hrT'.lt
        have HWC : Hid (Below B5 wB wC ∧ wC.rowIs B5 21 N (fun k => .int .i32 (F k)) ∧ wC.rowIs (B5 + 1) 21 N (fun k => .int .i32 (T k))) := ⟨hb, hrF', hrT'⟩
        have hmk3 : ∀ w, (Instr.makeSlice 31 (.int .i64 ((n : Int) + 1)) (.int .i64 ((n : Int) + 1))).run Tryf.prog w = .ok (.slice (some ⟨w.heap.size, 0, none⟩) (n + 1) (n + 1)) (w.alloc (.cells (madeCells #[.int .i64 0] (n + 1)) 3)) := fun w => run_make_row' (P := Tryf.prog) 31 3 (.int .i64 0) 8 Tryf.underlying31 info3 rfl .i64 .i64 (n + 1) (by omega) (by omega) w
        have START2 : Hid (Below bs wC (wC.alloc (.cells (madeCells #[.int .i64 0] (n + 1)) 3)) ∧ (wC.alloc (.cells (madeCells #[.int .i64 0] (n + 1)) 3)).rowIs bs 3 (n + 1) (cntV [])) := by
          subst hbs
          exact ⟨(Below.refl _ _).alloc (Nat.le_refl _) _, (World.rowIs_made wC _ (n + 1) 3).congr (fun i _ => by simp [cntV, run_nil])⟩
        clear hrF hrT hrF' hrT' hj hlt hb d0 d1 hbB e0 e1 c0 c1
        go_wp2
        go_loopw [10, 89] (fun _ v wr => ∃ j : Nat, v = .int .i64 j ∧ j ≤ N ∧ Below bs wC wr ∧ wr.rowIs bs 3 (n + 1) (cntV (arcs directed (fun _ => true) F T W j))) (fun _ v _ => N - (intOf v).toNat)
        case atStart => exact ⟨0, rfl, Nat.zero_le _, START2.out⟩
        case round =>
          clear START2 hmk3 hge
          obtain ⟨j, rfl, hj, hb, hc⟩ := hrel
          by_cases hlt : j < N
          · have hlt' : (j : Int) < N := by omega
            have hFj := (HIX.out.2.1 j hlt).1
            have hTj := (HIX.out.2.2.1 j hlt).1
            obtain ⟨A0, hA0⟩ : ∃ A0, A0 = arcs directed (fun _ => true) F T W j := ⟨_, rfl⟩
            rw [← hA0] at hc
            have hlen : A0.length ≤ 131072 := by have := arcs_length directed (fun _ => true) F T W j; rw [hA0]; omega
            have s0 := (hb.cell (p := ⟨B5, j, none⟩) (by show B5 < bs; omega)).trans (HWC.out.2.1.cell hlt)
            have s1 := (hb.cell (p := ⟨B5 + 1, j, none⟩) (by show B5 + 1 < bs; omega)).trans (HWC.out.2.2.cell hlt)
            have s2 := hc.cell (i := F j + 1) (by omega)
            rw [cntV_succ] at s2
            have f2 := hc.frozen (F j + 1)
            have hl1 : ((run A0 (F j)).length : Int) ≤ 131072 := by have := run_le A0 (F j); omega
            have hFi : (F j : Int) + 1 < (n : Int) + 1 := by omega
            have hFb : (F j : Int) ≤ 131072 := by omega
            have hc1 := cnt_step (a := F j) (x := (T j, W j)) hc
            have hb1 := hb.setCell (p := ⟨bs, F j + 1, none⟩) (Nat.le_refl _) (.int .i64 (((run A0 (F j)).length : Int) + 1))
            have HC1 : Hid (Below bs wC (wr.setCell ⟨bs, F j + 1, none⟩ (.int .i64 (((run A0 (F j)).length : Int) + 1))) ∧ (wr.setCell ⟨bs, F j + 1, none⟩ (.int .i64 (((run A0 (F j)).length : Int) + 1))).rowIs bs 3 (n + 1) (cntV (A0 ++ [(F j, T j, W j)]))) := ⟨hb1, hc1⟩
            have HA0 : Hid (A0 = arcs directed (fun _ => true) F T W j) := hA0
            clear hc1 hb1 hc hb hA0
            go_upto_region 18 with fail
            generalize hwD : wr.setCell ⟨bs, F j + 1, none⟩ (.int .i64 (((run A0 (F j)).length : Int) + 1)) = wD
            rw [hwD] at HC1
            clear hwD s0 s1 s2 f2
            have hb1 := HC1.out.1
            have hc1 := HC1.out.2
            have CLOSE : Hid (∀ wx : World, Below bs wC wx → wx.rowIs bs 3 (n + 1) (cntV (arcs directed (fun _ => true) F T W (j + 1))) →
                ∃ j' : Nat, Value.int .i64 ((j : Int) + 1) = .int .i64 j' ∧ j' ≤ N ∧ Below bs wC wx ∧ wx.rowIs bs 3 (n + 1) (cntV (arcs directed (fun _ => true) F T W j'))) := fun wx h1 h2 => ⟨j + 1, by go_num, hlt, h1, h2⟩
            cases directed with
            | true =>
              rw [HA0.out, ← arcs_dir] at hc1
              have HC2 : Hid (wD.rowIs bs 3 (n + 1) (cntV (arcs true (fun _ => true) F T W (j + 1)))) := hc1
              clear hc1
              go_quiet (fail)
              go_wp2
              go_roundw
              case rel => exact CLOSE.out _ (below_drewN hb1 _) (HC2.out.of_block rfl)
              case measure => simp [intOf]; omega
            | false =>
              have s0 := (hb1.cell (p := ⟨B5, j, none⟩) (by show B5 < bs; omega)).trans (HWC.out.2.1.cell hlt)
              have s1 := (hb1.cell (p := ⟨B5 + 1, j, none⟩) (by show B5 + 1 < bs; omega)).trans (HWC.out.2.2.cell hlt)
              by_cases hFT : F j = T j
              · have hq : ((F j : Int) != (T j : Int)) = false := by simp [hFT]
                have hq' : (F j != T j) = false := by simp [hFT]
                rw [HA0.out, ← arcs_same F T W j hFT] at hc1
                have HC2 : Hid (wD.rowIs bs 3 (n + 1) (cntV (arcs false (fun _ => true) F T W (j + 1)))) := hc1
                clear hc1 hFT
                go_quiet (fail)
                go_wp2
                go_roundw
                case rel => exact CLOSE.out _ (below_drewN hb1 _) (HC2.out.of_block rfl)
                case measure => simp [intOf]; omega
              · have hq : ((F j : Int) != (T j : Int)) = true := by simp; omega
                have hq' : (F j != T j) = true := by simp [hFT]
                have s2 := hc1.cell (i := T j + 1) (by omega)
                rw [cntV_succ] at s2
                have f2 := hc1.frozen (T j + 1)
                have hc2 := cnt_step (a := T j) (x := (F j, W j)) hc1
                obtain ⟨A1, hA1⟩ : ∃ A1, A1 = A0 ++ [(F j, T j, W j)] := ⟨_, rfl⟩
                rw [← hA1] at s2 hc2
                have hlA1 : A1.length = A0.length + 1 := by rw [hA1]; simp
                have hl2 : ((run A1 (T j)).length : Int) ≤ 131073 := by have := run_le A1 (T j); omega
                have hTi : (T j : Int) + 1 < (n : Int) + 1 := by omega
                have hTb : (T j : Int) ≤ 131072 := by omega
                have HC2 : Hid ((wD.setCell ⟨bs, T j + 1, none⟩ (.int .i64 (((run A1 (T j)).length : Int) + 1))).rowIs bs 3 (n + 1) (cntV (arcs false (fun _ => true) F T W (j + 1)))) := by
                  rw [arcs_both F T W j hFT, ← HA0.out, ← hA1]; exact hc2
                clear hc1 hc2 hFT hA1
                go_quiet (fail)
                go_wp2
                go_roundw
                case rel => exact CLOSE.out _ ((below_drewN hb1 _).setCell (Nat.le_refl bs) _) (HC2.out.of_block rfl)
                case measure => simp [intOf]; omega
          · have hge : ¬ ((j : Int) < N) := by omega
            obtain rfl : N = j := by omega
            obtain ⟨A, hA⟩ : ∃ A, A = arcs directed (fun _ => true) F T W N := ⟨_, rfl⟩
            rw [← hA] at hc
            have HA : Hid (A = arcs directed (fun _ => true) F T W N) := hA
            have hlen : A.length ≤ 131072 := by have := arcs_length directed (fun _ => true) F T W N; rw [hA]; omega
            have hst : ∀ i, (st A i : Int) ≤ 131072 := fun i => by have := st_le_length A i; omega
            have HST : Hid (∀ i, (st A i : Int) ≤ 131072) := hst
            have START3 : Hid (Below bs wC wr ∧ wr.rowIs bs 3 (n + 1) (sumV A 0)) := ⟨hb, hc.congr fun i _ => sumV_zero A i⟩
            clear hb hc hA hst hlt
            go_wp2
            go_loopw [11, 128] (fun _ v wr => ∃ j : Nat, v = .int .i64 j ∧ j ≤ n ∧ Below bs wC wr ∧ wr.rowIs bs 3 (n + 1) (sumV A j)) (fun _ v _ => n - (intOf v).toNat)
            case atStart => exact ⟨0, rfl, Nat.zero_le _, START3.out⟩
            case round =>
              clear START3 hge
              obtain ⟨j, rfl, hj, hb, hc⟩ := hrel
              by_cases hlt : j < n
              · have hlt' : (j : Int) < n := by omega
                have s0 := hc.cell (i := j) (by omega)
                have s1 := hc.cell (i := j + 1) (by omega)
                rw [show sumV A j j = .int .i64 (st A j) by simp [sumV]] at s0
                rw [show sumV A j (j + 1) = .int .i64 (((run A j).length : Nat) : Int) by unfold sumV; rw [if_neg (by omega), Nat.add_sub_cancel]] at s1
                have f1 := hc.frozen (j + 1)
                have l1 := HST.out j
                have l2 : ((run A j).length : Int) ≤ 131072 := by have := run_le A j; omega
                have hj1 : (j : Int) + 1 < (n : Int) + 1 := by omega
                have hj2 : (j : Int) < (n : Int) + 1 := by omega
                have HC2 : Hid ((wr.setCell ⟨bs, j + 1, none⟩ (.int .i64 (((run A j).length : Int) + (st A j : Int)))).rowIs bs 3 (n + 1) (sumV A (j + 1))) := sum_step hc
                clear hc
                go_wp2
                go_region
                all_goals go_wp2
                all_goals go_roundw
                case rel => exact ⟨j + 1, by go_num, hlt, (hb.setCell (p := ⟨bs, j + 1, none⟩) (Nat.le_refl _) _).drew, HC2.out.of_block rfl⟩
                case measure => simp [intOf]; omega
              · have hge : ¬ ((j : Int) < n) := by omega
                obtain rfl : n = j := by omega
                obtain ⟨wE, hwE⟩ : ∃ wE, wE = wr := ⟨_, rfl⟩
                subst hwE
                obtain ⟨E0, hE0⟩ : ∃ E0, wE.heap.size = E0 := ⟨_, rfl⟩
                have hE1 : bs < E0 := hE0 ▸ hc.lt
                have hstart : ∀ i, i ≤ n → wE.cell? ⟨bs, i, none⟩ = some (.int .i64 (st A i)) := fun i hi => by rw [hc.cell (by omega)]; simp [sumV, hi]
                have HSTART : Hid (∀ i, i ≤ n → wE.cell? ⟨bs, i, none⟩ = some (.int .i64 (st A i))) := hstart
                have HWE : Hid (Below bs wC wE) := hb
                have hclone : Hid (Calls Tryf.prog 28 #[.slice (some ⟨bs, 0, none⟩) n (n + 1)] wE fun e w' => ∃ v', e = .returned v' ∧ w'.ownsRow E0 3 1 v' n ((List.range n).map fun i => Value.int .i64 (st A i)) ∧ v' ≠ .slice none 0 0 ∧ Below E0 wE w') := by
                  have := Tryf.slices_Clone_int bs 0 n (n + 1) ((List.range n).map fun i => (st A i : Int)) wE (by simp) (by omega) (fun j hj => by
                    have hj : j < n := by simpa using hj
                    rw [Nat.zero_add, hstart j (by omega)]; simp [List.getD_eq_getElem?_getD, hj])
                  rw [hE0] at this
                  refine this.mono ?_
                  rintro e w' ⟨v', h1, h2, h3⟩
                  refine ⟨v', h1, ?_, h3⟩
                  rw [List.take_of_length_le (by simp), List.map_map] at h2
                  exact h2
                clear hc hb hstart hlt hj
                go_wp2_with (go_at_call 28; refine hclone.out.mono ?_)
                rintro e wG v' rfl hown hnn hbG
                clear hclone
                obtain ⟨G0, hG0⟩ : ∃ G0, wG.heap.size = G0 := ⟨_, rfl⟩
                have hEG : E0 ≤ G0 := hG0 ▸ hE0 ▸ hbG.size
                obtain ⟨M, hM⟩ : ∃ M, M = st A n := ⟨_, rfl⟩
                have g1 := (hbG.cell (p := ⟨bs, n, none⟩) hE1).trans (HSTART.out n (Nat.le_refl _))
                rw [← hM] at g1
                have hMb : (M : Int) ≤ 131072 := by rw [hM]; exact HST.out n
                have hmkT := run_make_row' (P := Tryf.prog) 30 21 (.int .i32 0) 4 Tryf.underlying30 info21 rfl .i64 .i64 M (by omega) (by omega)
                have hmkW := run_make_row' (P := Tryf.prog) 32 24 (.float .f64 0) 8 Tryf.underlying32 info24 rfl .i64 .i64 M (by omega) (by omega)
                have g2 := (((Below.refl G0 wG).alloc (Nat.le_of_eq hG0.symm) (.cells (madeCells #[.int .i32 0] M) 21)).cell (p := ⟨bs, n, none⟩) (show bs < G0 by omega)).trans g1
                have g3 := (((Below.refl G0 wG).alloc (Nat.le_of_eq hG0.symm) (.cells (madeCells #[.float .f64 0] M) 24)).cell (p := ⟨bs, n, none⟩) (show bs < G0 by omega)).trans g1
                have HOWN : Hid (wG.ownsRow E0 3 1 v' n ((List.range n).map fun i => Value.int .i64 (st A i)) ∧ Below E0 wE wG) := ⟨hown, hbG⟩
                have HMM : Hid (M = st A n) := hM
                clear hown hnn hbG hM
                go_wp2
                go_cut [13] from 148 to 165 (fun s wx => ∃ bt bw bg, s = .pointer (some ⟨bg, 0, none⟩) ∧ Below G0 wG wx ∧ G0 ≤ bt ∧ G0 ≤ bw ∧ G0 ≤ bg ∧ bt ≠ bw ∧ bg ≠ bt ∧ bg ≠ bw ∧ wx.rowIs bt 21 M (fun _ => .int .i32 0) ∧ wx.rowIs bw 24 M (fun _ => .float .f64 0) ∧
                  wx.heap[bg]? = some (.cells #[.slice (some ⟨H, 0, none⟩) n n, .slice (some ⟨bs, 0, none⟩) (n + 1) (n + 1), .slice (some ⟨bt, 0, none⟩) M M, .slice (some ⟨bw, 0, none⟩) M M, .int .i64 N] 46 (0, 0)))
                case first =>
                  go_region
                  all_goals go_wp2
                  all_goals go_meet
                  · obtain ⟨m1, m2, m3, m4⟩ := made3 21 24 M (.int .i32 0) (.float .f64 0) _ hG0
                    exact ⟨G0, G0 + 1, G0 + 2, rfl, m1, by omega, by omega, by omega, by omega, by omega, by omega, m2, m3, m4⟩
                  · obtain ⟨m1, m2, m3, m4⟩ := made3 24 21 M (.float .f64 0) (.int .i32 0) _ hG0
                    exact ⟨G0 + 1, G0, G0 + 2, rfl, m1, by omega, by omega, by omega, by omega, by omega, by omega, m3, m2, m4⟩
                case rest =>
                  obtain ⟨bt, bw, bg, rfl, hbx, l1, l2, l3, n1, n2, n3, hrT, hrW, hblk⟩ := hcut
                  obtain ⟨wI, hwI⟩ : ∃ wI, wI = wc := ⟨_, rfl⟩
                  subst hwI
                  obtain ⟨gn, cap, X, hnx⟩ := next_view HOWN.out.1
                  obtain ⟨G, hG⟩ : ∃ G : Array Value, G = #[.slice (some ⟨H, 0, none⟩) n n, .slice (some ⟨bs, 0, none⟩) (n + 1) (n + 1), .slice (some ⟨bt, 0, none⟩) M M, .slice (some ⟨bw, 0, none⟩) M M, .int .i64 N] := ⟨_, rfl⟩
                  rw [← hG] at hblk
                  have HGG : Hid (G = #[.slice (some ⟨H, 0, none⟩) n n, .slice (some ⟨bs, 0, none⟩) (n + 1) (n + 1), .slice (some ⟨bt, 0, none⟩) M M, .slice (some ⟨bw, 0, none⟩) M M, .int .i64 N]) := hG
                  have HBW : Hid (Below E0 wE wI) := HOWN.out.2.trans (hbx.mono hEG)
                  have HNX : Hid (0 < n → v' = .slice (some ⟨gn, 0, none⟩) n cap ∧ E0 ≤ gn ∧ gn < G0 ∧ n ≤ cap) := fun h => ⟨(hnx h).1, (hnx h).2.1, hG0 ▸ (hnx h).2.2.1, (hnx h).2.2.2.1⟩
                  have START4 : Hid (0 < n → Inv4 wE E0 bg gn cap n M bt bw G X A [] wI) := fun h => by
                    obtain ⟨_, _, h3, _, h5⟩ := hnx h
                    exact ⟨HBW.out, hblk, h5.of_block (hbx.block gn (hG0 ▸ h3)), _, _, hrT, hrW, placed_nil _ _ _ _⟩
                  have HBLK : Hid (wI.heap[bg]? = some (.cells G 46 (0, 0)) ∧ wI.rowIs bt 21 M (fun _ => .int .i32 0) ∧ wI.rowIs bw 24 M (fun _ => .float .f64 0)) := ⟨hblk, hrT, hrW⟩
                  have KEEP : Hid (∀ wr, Below E0 wE wr → ∀ p : Addr, p.block < H → wr.cell? p = w.cell? p) := fun wr h p hp =>
                    (h.cell (by omega)).trans ((HWE.out.cell (by omega)).trans ((HWC.out.1.cell (by omega)).trans (HW2.out.1.cell hp)))
                  have KEEPF : Hid (∀ wr, Below E0 wE wr → ∀ j, j < N → wr.cell? ⟨B5, j, none⟩ = some (.int .i32 (F j)) ∧ wr.cell? ⟨B5 + 1, j, none⟩ = some (.int .i32 (T j))) := fun wr h j hj =>
                    ⟨(h.cell (p := ⟨B5, j, none⟩) (by show B5 < E0; omega)).trans ((HWE.out.cell (p := ⟨B5, j, none⟩) (by show B5 < bs; omega)).trans (HWC.out.2.1.cell hj)),
                     (h.cell (p := ⟨B5 + 1, j, none⟩) (by show B5 + 1 < E0; omega)).trans ((HWE.out.cell (p := ⟨B5 + 1, j, none⟩) (by show B5 + 1 < bs; omega)).trans (HWC.out.2.2.cell hj))⟩
                  clear hnx hblk hrT hrW hbx hG hmkT hmkW g1 g2 g3
                  go_wp2
                  go_loopw [14, 168] (fun _ v wr => ∃ j : Nat, v = .int .i64 j ∧ j ≤ N ∧ (0 < n → Inv4 wE E0 bg gn cap n M bt bw G X A (arcs directed (fun _ => true) F T W j) wr) ∧ (n = 0 → wr = wI)) (fun _ v _ => N - (intOf v).toNat)
                  case atStart => exact ⟨0, rfl, Nat.zero_le _, START4.out, fun _ => rfl⟩
                  case round =>
                    clear START4 hge
                    obtain ⟨j, rfl, hj, hinv, hz⟩ := hrel
                    by_cases hlt : j < N
                    · have hlt' : (j : Int) < N := by omega
                      have hFj := (HIX.out.2.1 j hlt).1
                      have hTj := (HIX.out.2.2.1 j hlt).1
                      obtain ⟨rfl, hg1, hg2, hg3⟩ := HNX.out (by omega)
                      obtain ⟨rfl, hgw⟩ := W1.out.1 (by omega)
                      have hI := hinv (by omega)
                      have p2 := (KEEP.out _ hI.below ⟨b, 2, none⟩ hbH).trans c2
                      have p3 := (KEEP.out _ hI.below ⟨gw, j, none⟩ (by show gw < H; have := HH.out; omega)).trans (KW.out j hlt)
                      obtain ⟨p0, p1⟩ := KEEPF.out _ hI.below j hlt
                      obtain ⟨K, hK⟩ := arcs_split (directed := directed) (kp := fun _ => true) (F := F) (T := T) (W := W) (k := j) (N := N) hlt
                      rw [← HA.out] at hK
                      have hK1 : A = arcs directed (fun _ => true) F T W j ++ (F j, T j, W j) :: ((if !directed && (F j != T j) then [(T j, F j, W j)] else []) ++ K) := by rw [hK]; simp [ones]
                      have hMb' : M ≤ 1000000 := by omega
                      have HCALL : Hid (Calls Tryf.prog 29 #[.pointer (some ⟨bg, 0, none⟩), .slice (some ⟨gn, 0, none⟩) n cap, .int .i32 (F j), .int .i32 (T j), .float .f64 (W j)] wr.drew fun e w' => e = .returned (.tuple #[]) ∧ Inv4 wE E0 bg gn cap n M bt bw G X A (arcs directed (fun _ => true) F T W j ++ [(F j, T j, W j)]) w') :=
                        addOut_inv hI.drew hK1 hFj HMM.out hMb' hg3 (ct := M) (cw := M) (by rw [HGG.out]; rfl) (by rw [HGG.out]; rfl) hg1 (by omega) (by omega) n2 n3 (by omega) (by omega) (by omega) n1
                      have HK : Hid (A = arcs directed (fun _ => true) F T W j ++ (ones directed (fun _ => true) F T W j ++ K)) := hK
                      have HI : Hid (Inv4 wE E0 bg gn cap n M bt bw G X A (arcs directed (fun _ => true) F T W j) wr) := hI
                      clear hK1 hK hinv hI hz
                      go_upto_region 31 with fail
                      go_cut [] from 171 to 188 (fun wx => Inv4 wE E0 bg gn cap n M bt bw G X A (arcs directed (fun _ => true) F T W j ++ [(F j, T j, W j)]) wx)
                      case first =>
                        go_region_with (go_at_call 29; refine HCALL.out.mono ?_; rintro e w' ⟨rfl, hI2⟩)
                        all_goals (go_wp2; go_meet; assumption)
                      case rest =>
                        obtain ⟨wJ, hwJ⟩ : ∃ wJ, wJ = wc := ⟨_, rfl⟩
                        subst hwJ
                        have HI1 : Hid (Inv4 wE E0 bg gn cap n M bt bw G X A (arcs directed (fun _ => true) F T W j ++ [(F j, T j, W j)]) wJ) := hcut
                        clear hcut HCALL p0 p1 p2 p3 HI
                        have hnz : n ≠ 0 := by omega
                        have HNZ : Hid (n ≠ 0) := hnz
                        have CLOSE : Hid (∀ wx : World, Inv4 wE E0 bg gn cap n M bt bw G X A (arcs directed (fun _ => true) F T W (j + 1)) wx →
                            ∃ j' : Nat, Value.int .i64 ((j : Int) + 1) = .int .i64 j' ∧ j' ≤ N ∧ (0 < n → Inv4 wE E0 bg gn cap n M bt bw G X A (arcs directed (fun _ => true) F T W j') wx) ∧ (n = 0 → wx = wI)) := fun wx h1 => ⟨j + 1, by go_num, hlt, fun _ => h1, fun h => absurd h hnz⟩
                        clear hnz
                        cases directed with
                        | true =>
                          have HI2 : Hid (Inv4 wE E0 bg gn cap n M bt bw G X A (arcs true (fun _ => true) F T W (j + 1)) wJ) := by rw [arcs_dir]; exact HI1.out
                          go_wp2
                          go_quiet (fail)
                          go_wp2
                          go_roundw
                          case rel => exact CLOSE.out _ (HI2.out.drewN _)
                          case measure => simp [intOf]; omega
                        | false =>
                          have hI1 := HI1.out
                          obtain ⟨p0, p1⟩ := KEEPF.out _ hI1.below j hlt
                          by_cases hFT : F j = T j
                          · have hq : ((F j : Int) != (T j : Int)) = false := by simp [hFT]
                            have hq' : (F j != T j) = false := by simp [hFT]
                            have HI2 : Hid (Inv4 wE E0 bg gn cap n M bt bw G X A (arcs false (fun _ => true) F T W (j + 1)) wJ) := by rw [arcs_same F T W j hFT]; exact HI1.out
                            clear hFT hI1
                            go_wp2
                            go_quiet (fail)
                            go_wp2
                            go_roundw
                            case rel => exact CLOSE.out _ (HI2.out.drewN _)
                            case measure => simp [intOf]; omega
                          · have hq : ((F j : Int) != (T j : Int)) = true := by simp; omega
                            have hq' : (F j != T j) = true := by simp [hFT]
                            have HFT : Hid (¬ F j = T j) := hFT
                            clear hFT hI1
                            go_wp2
                            go_quiet (fail)
                            generalize hwL : wJ.drewN nq = wL
                            have hI2 : Inv4 wE E0 bg gn cap n M bt bw G X A (arcs false (fun _ => true) F T W j ++ [(F j, T j, W j)]) wL := hwL ▸ HI1.out.drewN nq
                            clear hwL p0 p1
                            have p2 := (KEEP.out _ hI2.below ⟨b, 2, none⟩ hbH).trans c2
                            have p3 := (KEEP.out _ hI2.below ⟨gw, j, none⟩ (by show gw < H; have := HH.out; omega)).trans (KW.out j hlt)
                            obtain ⟨p0, p1⟩ := KEEPF.out _ hI2.below j hlt
                            have hK2 : A = (arcs false (fun _ => true) F T W j ++ [(F j, T j, W j)]) ++ (T j, F j, W j) :: K := by rw [HK.out]; simp [ones, HFT.out]
                            have HCALL2 : Hid (Calls Tryf.prog 29 #[.pointer (some ⟨bg, 0, none⟩), .slice (some ⟨gn, 0, none⟩) n cap, .int .i32 (T j), .int .i32 (F j), .float .f64 (W j)] wL.drew fun e w' => e = .returned (.tuple #[]) ∧ Inv4 wE E0 bg gn cap n M bt bw G X A ((arcs false (fun _ => true) F T W j ++ [(F j, T j, W j)]) ++ [(T j, F j, W j)]) w') :=
                              addOut_inv hI2.drew hK2 hTj HMM.out hMb' hg3 (ct := M) (cw := M) (by rw [HGG.out]; rfl) (by rw [HGG.out]; rfl) hg1 (by omega) (by omega) n2 n3 (by omega) (by omega) (by omega) n1
                            clear hK2 hI2
                            go_upto_region 33 with fail
                            go_region_with (go_at_call 29; refine HCALL2.out.mono ?_; rintro e w' ⟨rfl, hI3⟩)
                            all_goals
                              have HI3 : Hid (Inv4 wE E0 bg gn cap n M bt bw G X A (arcs false (fun _ => true) F T W (j + 1)) w') := by rw [arcs_both F T W j HFT.out]; exact hI3
                              clear hI3 p0 p1 p2 p3 HCALL2
                              go_wp2
                              go_roundw
                              case rel => exact CLOSE.out _ HI3.out
                              case measure => simp [intOf]; omega
                    · have hge : ¬ ((j : Int) < N) := by omega
                      obtain rfl : N = j := by omega
                      have hend : Below E0 wE wr ∧ wr.heap[bg]? = some (.cells G 46 (0, 0)) ∧ ∃ fT fW, wr.rowIs bt 21 M fT ∧ wr.rowIs bw 24 M fW ∧ Placed A A n fT fW := by
                        rcases Nat.eq_zero_or_pos n with h0 | h0
                        · rw [hz h0]
                          exact ⟨HBW.out, HBLK.out.1, _, _, HBLK.out.2.1, HBLK.out.2.2, fun s c hs => by omega⟩
                        · have := hinv h0
                          rw [← HA.out] at this
                          exact ⟨this.below, this.blk, this.rows⟩
                      have HEND : Hid (Below E0 wE wr ∧ wr.heap[bg]? = some (.cells G 46 (0, 0)) ∧ ∃ fT fW, wr.rowIs bt 21 M fT ∧ wr.rowIs bw 24 M fW ∧ Placed A A n fT fW) := hend
                      clear hend hinv hz
                      go_wp2
                      go_ret
                      obtain ⟨q1, q2, fT, fW, q3, q4, q5⟩ := HEND.out
                      have hHw := HH.out
                      have hBw : Below H w wr := (HW2.out.1.trans (HWC.out.1.mono (by omega))).trans ((HWE.out.mono (by omega)).trans (q1.mono (by omega)))
                      unfold GraphPost
                      refine ⟨n, M, bg, H, bs, bt, bw, I, F, T, rfl, hHw ▸ hBw, ?_⟩
                      rw [← HA.out]
                      have hMA : M = A.length := by
                        rw [HMM.out]
                        exact st_all _ _ fun a ha => by
                          rw [HA.out] at ha
                          exact (arcs_src directed (fun _ => true) F T W (n := n) (fun k hk => (HIX.out.2.1 k hk).1) (fun k hk => (HIX.out.2.2.1 k hk).1) a ha).1
                      have hsz := q1.size
                      exact {
                        g0 := by rw [cell_of_row _ _ _ _ _ _ q2, HGG.out]; rfl
                        g1 := by rw [cell_of_row _ _ _ _ _ _ q2, HGG.out]; rfl
                        g2 := by rw [cell_of_row _ _ _ _ _ _ q2, HGG.out]; rfl
                        g3 := by rw [cell_of_row _ _ _ _ _ _ q2, HGG.out]; rfl
                        g4 := by rw [cell_of_row _ _ _ _ _ _ q2, HGG.out]; rfl
                        lbg := lt_of_blk q2
                        lbi := by omega
                        lbs := by omega
                        lbt := q3.lt
                        lbw := q4.lt
                        ids := fun i hi => (q1.cell (p := ⟨H, i, none⟩) (by show H < E0; omega)).trans ((HWE.out.cell (p := ⟨H, i, none⟩) (by show H < bs; omega)).trans ((HWC.out.1.cell (p := ⟨H, i, none⟩) (by show H < B5; omega)).trans (HW2.out.2.1 i hi)))
                        start := fun i hi => (q1.cell (p := ⟨bs, i, none⟩) hE1).trans (HSTART.out i hi)
                        tgt := fun s c hs h => by
                          have hp := place_lt A s c n hs h
                          rw [q3.cell (by rw [HMM.out]; exact hp)]
                          exact congrArg some (q5 s c hs h h).1
                        wgt := fun s c hs h => by
                          have hp := place_lt A s c n hs h
                          rw [q4.cell (by rw [HMM.out]; exact hp)]
                          exact congrArg some (q5 s c hs h h).2
                        asc := HIX.out.1
                        sF := HIX.out.2.1
                        sT := HIX.out.2.2.1
                        cov := HIX.out.2.2.2
                        hn := hn2
                        hM := hMA }
end Go.Proofs.Qxb6616522aFmt
