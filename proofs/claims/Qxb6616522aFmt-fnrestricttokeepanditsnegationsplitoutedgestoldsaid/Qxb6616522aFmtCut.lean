/-
  THE WALK OF Restrict.
-/
import Derived.Test.Qxb6616522aFmtGraphA
import Derived.Test.Qxb6616522aFmtMask
import Derived.Test.Qxb6616522aFmtCutB
import Derived.BigRegion
import Derived.Laws.MakeOwn
import Derived.ArgAppend
namespace Go.Proofs.Qxb6616522aFmt
open Go.RowKit

/-- append where there is room, at a plain region. -/
theorem wpList_append_fits {P : Program} (w : World) {ops : Array Oper} {rest : List Oper} {o : Oper} {a : Act} {Q : Exit → Act → World → Prop}
    (hg : o.guard = none) (s x : Operand) (t : TypeId) (hop : o.op = Op.call { callee := Callee.builtin Builtin.append, args := #[s, x], argTypes := #[t, t] })
    (e : TypeId) (i : TypeInfo) (size : Nat) (h1 : P.underlying t = some (.slice e)) (h2 : P.info? e = some i) (h4 : i.size = size)
    (b off n cap : Nat) (hs : a.eval s = .slice (some ⟨b, off, none⟩) n cap)
    (ad : Addr) (m c : Nat) (news : List Value) (hx : a.eval x = .slice (some ad) m c) (hn : news.length = m * size) (hc : ∀ j u, news[j]? = some u → w.cell? (ad.add j) = some u) (h1c : ∀ u ∈ news, u.oneCell' = true)
    (hr : n + m ≤ cap) (hspare : ∀ j, j < news.length → (w.cell? ⟨b, off + n * size + j, none⟩).isSome = true ∧ w.frozen? ⟨b, off + n * size + j, none⟩ = false)
    (h : wpList P ops Q rest (a.put o.dst (.slice (some ⟨b, off, none⟩) (n + m) cap)) (w.setCells b (off + n * size) news)) :
    wpList P ops Q (o :: rest) a w := by
  refine wpList_plain hg fun K hK' => ?_
  subst h4
  have hrun := run_append_room_cells (P := P) w t o.type e i h1 h2 b off n cap ad m c news hn hc h1c hr (fun j hj => (hspare j hj).1) (fun j hj => (hspare j hj).2)
  unfold Oper.wp
  simp [execOp, hop, resolve, invoke, builtin, hs, hx, hrun, Result.andThen]
  exact hK' _ _ h

/-- What a call of Restrict ends in. -/
def CutPost (w : World) (n N bi : Nat) (I U V : Nat → Int) (W F T : Nat → Nat) (A : List Arc) (e : Ending) (w' : World) : Prop :=
  ∃ M rg rs rt rw, e = .returned (.pointer (some ⟨rg, 0, none⟩)) ∧ Below w.heap.size w w' ∧ Built w' n N M rg bi rs rt rw I U V W F T A

set_option maxHeartbeats 4000000 in
set_option maxRecDepth 100000 in
theorem cut_at (w : World) (n N M bg bi bs bt bw bk : Nat) (I U V : Nat → Int) (W F T : Nat → Nat) (directed : Bool) (kp : Nat → Bool) (A A1 : List Arc)
    (B : Built w n N M bg bi bs bt bw I U V W F T A) (hA : A = arcs directed (fun _ => true) F T W N) (hA1 : A1 = arcs directed kp F T W N) (hN : N ≤ 65536)
    (hk : ∀ wr, Below w.heap.size w wr → ∀ i, i < n → Calls Tryf.prog 22 #[.int .i64 i, .pointer (some ⟨bk, 0, none⟩)] wr fun e w' => e = .returned (.bool (kp i)) ∧ w' = wr) :
    Calls Tryf.prog 21 #[.pointer (some ⟨bg, 0, none⟩), .func (.func 22) #[] #[.pointer (some ⟨bk, 0, none⟩)]] w fun e w' => CutPost w n N bi I U V W F T A1 e w' := by
  have HB : Hid (Built w n N M bg bi bs bt bw I U V W F T A) := B
  have HK : Hid (∀ wr, Below w.heap.size w wr → ∀ i, i < n → Calls Tryf.prog 22 #[.int .i64 i, .pointer (some ⟨bk, 0, none⟩)] wr fun e w' => e = .returned (.bool (kp i)) ∧ w' = wr) := hk
  have hn := B.hn
  have HRUN : Hid (∀ s, run A1 s = if kp s then run A s else []) := fun s => by rw [hA1, hA]; exact run_kept directed kp F T W N s
  have hl1 : A1.length ≤ 131072 := by have := arcs_length directed kp F T W N; rw [hA1]; omega
  have hl0 : A.length ≤ 131072 := by have := arcs_length directed (fun _ => true) F T W N; rw [hA]; omega
  have HA1 : Hid (A1 = arcs directed kp F T W N ∧ A = arcs directed (fun _ => true) F T W N) := ⟨hA1, hA⟩
  obtain ⟨H, hH⟩ : ∃ H, w.heap.size = H := ⟨_, rfl⟩
  have g0 := B.g0
  have g4 := B.g4
  have lbg : bg < H := hH ▸ B.lbg
  have hmk3 : ∀ w, (Instr.makeSlice 31 (.int .i64 ((n : Int) + 1)) (.int .i64 ((n : Int) + 1))).run Tryf.prog w = .ok (.slice (some ⟨w.heap.size, 0, none⟩) (n + 1) (n + 1)) (w.alloc (.cells (madeCells #[.int .i64 0] (n + 1)) 3)) := fun w => run_make_row' (P := Tryf.prog) 31 3 (.int .i64 0) 8 Tryf.underlying31 info3 rfl .i64 .i64 (n + 1) (by omega) (by omega) w
  have e0 := (((Below.refl H w).alloc (Nat.le_of_eq hH.symm) (.cells (madeCells #[.int .i64 0] (n + 1)) 3)).cell (p := ⟨bg, 0, none⟩) lbg).trans g0
  have e4 := (((Below.refl H w).alloc (Nat.le_of_eq hH.symm) (.cells (madeCells #[.int .i64 0] (n + 1)) 3)).cell (p := ⟨bg, 4, none⟩) lbg).trans g4
  clear B hk hA hA1
  go_enter Tryf.func21, Tryf.ntmps21
  go_wp2
  go_cut [5] from 10 to 26 (fun s wx => s = .pointer (some ⟨H + 1, 0, none⟩) ∧ wx = ((w.alloc (.cells (madeCells #[.int .i64 0] (n + 1)) 3)).alloc (.cells #[.slice (some ⟨bi, 0, none⟩) n n, .slice (some ⟨H, 0, none⟩) (n + 1) (n + 1), .slice none 0 0, .slice none 0 0, .int .i64 N] 46)).drew)
  case first =>
    go_region
    all_goals (go_wp2; go_meet; exact ⟨rfl, rfl⟩)
  case rest =>
    obtain ⟨rfl, hwx⟩ := hcut
    obtain ⟨wx, hwy⟩ : ∃ wx, wx = wc := ⟨_, rfl⟩
    subst hwy
    obtain ⟨G, hG⟩ : ∃ G : Array Value, G = #[.slice (some ⟨bi, 0, none⟩) n n, .slice (some ⟨H, 0, none⟩) (n + 1) (n + 1), .slice none 0 0, .slice none 0 0, .int .i64 N] := ⟨_, rfl⟩
    rw [← hG] at hwx
    have START : Hid (Below H w wx ∧ wx.rowIs H 3 (n + 1) (fun i => .int .i64 (if i ≤ 0 then (st A1 i : Int) else 0)) ∧ wx.heap[H + 1]? = some (.cells G 46 (0, 0))) := by
      rw [hwx]
      subst hH
      refine ⟨(((Below.refl _ _).alloc (Nat.le_refl _) _).alloc (by simp) _).drew, (((World.rowIs_made w _ (n + 1) 3).alloc _).drew).congr (fun i _ => ?_), ?_⟩
      · by_cases h0 : i ≤ 0
        · obtain rfl : i = 0 := by omega
          simp [st_zero]
        · simp [h0]
      · show ((w.alloc (.cells (madeCells #[.int .i64 0] (n + 1)) 3)).heap.push (.cells G 46))[w.heap.size + 1]? = _
        rw [Array.getElem?_push, if_pos (by simp)]
    have HG : Hid (G = #[.slice (some ⟨bi, 0, none⟩) n n, .slice (some ⟨H, 0, none⟩) (n + 1) (n + 1), .slice none 0 0, .slice none 0 0, .int .i64 N]) := hG
    have x0 := (START.out.1.cell (p := ⟨bg, 0, none⟩) lbg).trans g0
    clear hwx hG hmk3 e0 e4
    go_wp2
    go_loopw [6, 32] (fun _ v wr => ∃ j : Nat, v = .int .i64 j ∧ j ≤ n ∧ Below H w wr ∧ wr.rowIs H 3 (n + 1) (fun i => .int .i64 (if i ≤ j then (st A1 i : Int) else 0)) ∧ wr.heap[H + 1]? = some (.cells G 46 (0, 0))) (fun _ v _ => n - (intOf v).toNat)
    case atStart => exact ⟨0, rfl, Nat.zero_le _, START.out⟩
    case round =>
      clear START x0
      obtain ⟨j, rfl, hj, hb, hc, hblk⟩ := hrel
      by_cases hlt : j < n
      · have hlt' : (j : Int) < n := by omega
        have k1 : wr.cell? ⟨H + 1, 1, none⟩ = some (.slice (some ⟨H, 0, none⟩) (n + 1) (n + 1)) := by rw [cell_of_row _ _ _ _ _ _ hblk, HG.out]; rfl
        have s0 := hc.cell (i := j) (by omega)
        rw [if_pos (Nat.le_refl j)] at s0
        have s1 := hc.cell (i := j + 1) (by omega)
        rw [if_neg (show ¬ j + 1 ≤ j by omega)] at s1
        have f1 := hc.frozen (j + 1)
        have hj1 : (j : Int) + 1 < (n : Int) + 1 := by omega
        have hj2 : (j : Int) < (n : Int) + 1 := by omega
        have HR : Hid (Below H w (wr.setCell ⟨H, j + 1, none⟩ (.int .i64 (st A1 j))).drew ∧ (wr.setCell ⟨H, j + 1, none⟩ (.int .i64 (st A1 j))).drew.rowIs H 3 (n + 1) (fun i => if i = j + 1 then .int .i64 (st A1 j) else .int .i64 (if i ≤ j then (st A1 i : Int) else 0)) ∧ (wr.setCell ⟨H, j + 1, none⟩ (.int .i64 (st A1 j))).drew.heap[H + 1]? = some (.cells G 46 (0, 0))) :=
          ⟨(hb.setCell (p := ⟨H, j + 1, none⟩) (Nat.le_refl _) _).drew, (hc.set _ _).drew, by rw [← hblk]; exact heap_setCell_other _ _ _ _ (show H + 1 ≠ H by omega)⟩
        clear hb hc hblk
        go_upto_region 5 with fail
        go_cut [] from 35 to 48 (fun wz => wz = (wr.setCell ⟨H, j + 1, none⟩ (.int .i64 (st A1 j))).drew)
        case first => go_region; all_goals (go_wp2; go_meet; exact rfl)
        case rest =>
          obtain ⟨wz, hwz⟩ : ∃ wz, wz = wc := ⟨_, rfl⟩
          subst hwz
          rw [← hcut] at HR
          clear hcut k1 s0 s1 f1
          have hstep := st_succ A1 j
          rw [HRUN.out j] at hstep
          have hst0 := st_succ A j
          have b1 := st_le_length A1 j
          have b2 := st_le_length A j
          have b3 := st_le_length A (j + 1)
          have CLOSE : Hid (∀ wx : World, Below H w wx → wx.rowIs H 3 (n + 1) (fun i => if i = j + 1 then .int .i64 (st A1 (j + 1)) else .int .i64 (if i ≤ j then (st A1 i : Int) else 0)) → wx.heap[H + 1]? = some (.cells G 46 (0, 0)) →
              ∃ j' : Nat, Value.int .i64 ((j : Int) + 1) = .int .i64 j' ∧ j' ≤ n ∧ Below H w wx ∧ wx.rowIs H 3 (n + 1) (fun i => .int .i64 (if i ≤ j' then (st A1 i : Int) else 0)) ∧ wx.heap[H + 1]? = some (.cells G 46 (0, 0))) :=
            fun wx h1 h2 h3 => ⟨j + 1, by go_num, hlt, h1, h2.congr (fun i _ => by
              by_cases e1 : i = j + 1
              · subst e1; simp
              · by_cases e2 : i ≤ j
                · rw [if_neg e1, if_pos e2, if_pos (by omega)]
                · rw [if_neg e1, if_neg e2, if_neg (by omega)]), h3⟩
          have hkj := HK.out wz (by rw [hH]; exact HR.out.1) j hlt
          have HKJ : Hid (Calls Tryf.prog 22 #[.int .i64 j, .pointer (some ⟨bk, 0, none⟩)] wz fun e w' => e = .returned (.bool (kp j)) ∧ w' = wz) := hkj
          clear hkj
          cases hkpj : kp j with
          | false =>
            rw [hkpj] at HKJ
            have hst1 : st A1 (j + 1) = st A1 j := by rw [hstep, hkpj]; simp
            have HFIN : Hid (wz.rowIs H 3 (n + 1) (fun i => if i = j + 1 then .int .i64 (st A1 (j + 1)) else .int .i64 (if i ≤ j then (st A1 i : Int) else 0))) := by
              show World.rowIs _ _ _ _ _
              rw [hst1]; exact HR.out.2.1
            clear hst1 hstep
            go_wp2_with (go_at_call 22; refine HKJ.out.mono ?_; rintro e w' ⟨rfl, rfl⟩)
            go_roundw
            case rel => exact CLOSE.out _ HR.out.1 HFIN.out HR.out.2.2
            case measure => simp [intOf]; omega
          | true =>
            rw [hkpj] at HKJ
            have hst1 : (st A1 j : Int) + ((st A (j + 1) : Int) - (st A j : Int)) = (st A1 (j + 1) : Int) := by rw [hstep, hkpj]; simp; omega
            have k1 : wz.cell? ⟨H + 1, 1, none⟩ = some (.slice (some ⟨H, 0, none⟩) (n + 1) (n + 1)) := by rw [cell_of_row _ _ _ _ _ _ HR.out.2.2, HG.out]; rfl
            have s1 := HR.out.2.1.cell (i := j + 1) (by omega)
            rw [if_pos rfl] at s1
            have f1 := HR.out.2.1.frozen (j + 1)
            have q1 := (HR.out.1.cell (p := ⟨bg, 1, none⟩) lbg).trans HB.out.g1
            have q2 := (HR.out.1.cell (p := ⟨bs, j, none⟩) (hH ▸ HB.out.lbs)).trans (HB.out.start j (by omega))
            have q3 := (HR.out.1.cell (p := ⟨bs, j + 1, none⟩) (hH ▸ HB.out.lbs)).trans (HB.out.start (j + 1) (by omega))
            have HFIN : Hid (Below H w (wz.setCell ⟨H, j + 1, none⟩ (.int .i64 ((st A1 j : Int) + ((st A (j + 1) : Int) - (st A j : Int))))).drew ∧ (wz.setCell ⟨H, j + 1, none⟩ (.int .i64 ((st A1 j : Int) + ((st A (j + 1) : Int) - (st A j : Int))))).drew.rowIs H 3 (n + 1) (fun i => if i = j + 1 then .int .i64 (st A1 (j + 1)) else .int .i64 (if i ≤ j then (st A1 i : Int) else 0)) ∧ (wz.setCell ⟨H, j + 1, none⟩ (.int .i64 ((st A1 j : Int) + ((st A (j + 1) : Int) - (st A j : Int))))).drew.heap[H + 1]? = some (.cells G 46 (0, 0))) := by
              refine ⟨(HR.out.1.setCell (p := ⟨H, j + 1, none⟩) (Nat.le_refl _) _).drew, ((HR.out.2.1.set (j + 1) _).drew).congr (fun i _ => ?_), ?_⟩
              · by_cases e1 : i = j + 1
                · rw [if_pos e1, if_pos e1, hst1]
                · rw [if_neg e1, if_neg e1, if_neg e1]
              · rw [← HR.out.2.2]; exact heap_setCell_other _ _ _ _ (show H + 1 ≠ H by omega)
            have m1 : (st A1 j : Int) ≤ 131072 := by omega
            have m2 : (st A j : Int) ≤ 131072 := by omega
            have m3 : (st A (j + 1) : Int) ≤ 131072 := by omega
            have m4 : (st A j : Int) ≤ st A (j + 1) := by omega
            clear hst1 hstep hst0
            go_wp2_with (go_at_call 22; refine HKJ.out.mono ?_; rintro e w' ⟨rfl, rfl⟩)
            go_region
            all_goals
              go_wp2
              go_roundw
              case rel => exact CLOSE.out _ HFIN.out.1 HFIN.out.2.1 HFIN.out.2.2
              case measure => simp [intOf]; omega
      · have hge : ¬ ((j : Int) < n) := by omega
        obtain rfl : n = j := by omega
        obtain ⟨wE, hwE⟩ : ∃ wE, wE = wr := ⟨_, rfl⟩
        subst hwE
        obtain ⟨M1, hM1⟩ : ∃ M1, M1 = st A1 n := ⟨_, rfl⟩
        have hM1b : (M1 : Int) ≤ 131072 := by have := st_le_length A1 n; omega
        have hc' : wE.rowIs H 3 (n + 1) (fun i => .int .i64 (st A1 i)) := hc.congr fun i hi => by rw [if_pos (by omega)]
        obtain ⟨rt, hrt⟩ : ∃ rt, wE.heap.size = rt := ⟨_, rfl⟩
        have hrt1 : H + 1 < rt := hrt ▸ lt_of_blk hblk
        obtain ⟨i1, hi1, hz10, hz11, hz12⟩ := info_parts info21
        obtain ⟨i4, hi4, hz40, hz41, hz42⟩ := info_parts info24
        have hmkT : ∀ w, (Instr.makeSlice 30 (.int .i64 0) (.int .i64 (M1 : Int))).run Tryf.prog w = .ok (.slice (some ⟨w.heap.size, 0, none⟩) 0 M1) (w.alloc (.cells (madeCells #[.int .i32 0] M1) 21)) := fun w => by
          rw [run_make (P := Tryf.prog) w 30 21 i1 (.int .i32 0) Tryf.underlying30 hi1 hz10 .i64 .i64 0 (M1 : Int) (by omega) (by omega) (by rw [hz12]; omega) (by omega), hz11, Int.toNat_natCast, Nat.mul_one]; rfl
        have hmkW : ∀ w, (Instr.makeSlice 32 (.int .i64 0) (.int .i64 (M1 : Int))).run Tryf.prog w = .ok (.slice (some ⟨w.heap.size, 0, none⟩) 0 M1) (w.alloc (.cells (madeCells #[.float .f64 0] M1) 24)) := fun w => by
          rw [run_make (P := Tryf.prog) w 32 24 i4 (.float .f64 0) Tryf.underlying32 hi4 hz40 .i64 .i64 0 (M1 : Int) (by omega) (by omega) (by rw [hz42]; omega) (by omega), hz41, Int.toNat_natCast, Nat.mul_one]; rfl
        have k0 := (hb.cell (p := ⟨bg, 0, none⟩) lbg).trans g0
        have k1 : wE.cell? ⟨H + 1, 1, none⟩ = some (.slice (some ⟨H, 0, none⟩) (n + 1) (n + 1)) := by rw [cell_of_row _ _ _ _ _ _ hblk, HG.out]; rfl
        have k2 : wE.cell? ⟨H + 1, 2, none⟩ = some (.slice none 0 0) := by rw [cell_of_row _ _ _ _ _ _ hblk, HG.out]; rfl
        have kf : wE.frozen? ⟨H + 1, 2, none⟩ = false := frozen_of_row _ _ _ _ _ hblk
        have s0 := hc'.cell (i := n) (by omega)
        rw [← hM1] at s0
        have hj2 : (n : Int) < (n : Int) + 1 := by omega
        have HM1 : Hid (M1 = st A1 n) := hM1
        have HE : Hid (Below H w wE ∧ wE.rowIs H 3 (n + 1) (fun i => .int .i64 (st A1 i)) ∧ wE.heap[H + 1]? = some (.cells G 46 (0, 0))) := ⟨hb, hc', hblk⟩
        clear hc hc' hb hblk hM1 hlt
        go_upto_region 9 with fail
        go_cut [] from 79 to 93 (fun wz => wz = ((wE.setCell ⟨H + 1, 2, none⟩ (.slice (some ⟨rt, 0, none⟩) 0 M1)).alloc (.cells (madeCells #[.int .i32 0] M1) 21)).drew)
        case first =>
          go_region
          all_goals (go_wp2; go_meet; exact rfl)
        case rest =>
          obtain ⟨wz, hwz⟩ : ∃ wz, wz = wc := ⟨_, rfl⟩
          subst hwz
          have HZ : Hid (Below H w wz ∧ wz.rowIs H 3 (n + 1) (fun i => .int .i64 (st A1 i)) ∧ wz.heap[H + 1]? = some (.cells #[.slice (some ⟨bi, 0, none⟩) n n, .slice (some ⟨H, 0, none⟩) (n + 1) (n + 1), .slice (some ⟨rt, 0, none⟩) 0 M1, .slice none 0 0, .int .i64 N] 46 (0, 0)) ∧ wz.rowIs rt 21 M1 (fun _ => .int .i32 0) ∧ wz.heap.size = rt + 1) := by
            have q0 := HE.out
            rw [HG.out] at q0
            rw [hcut]
            refine ⟨((q0.1.setCell (p := ⟨H + 1, 2, none⟩) (by show H ≤ H + 1; omega) _).alloc (by simp; omega) _).drew, ((q0.2.1.setOther (a := ⟨H + 1, 2, none⟩) (by show H ≠ H + 1; omega) _).alloc _).drew, ?_, ?_, ?_⟩
            · exact (Below.heap_alloc _ _ _ (by simp; omega)).trans ((heap_setCell_same _ _ 2 _ _ _ q0.2.2).trans rfl)
            · have := World.rowIs_made (wE.setCell ⟨H + 1, 2, none⟩ (.slice (some ⟨rt, 0, none⟩) 0 M1)) (.int .i32 0) M1 21
              rw [show (wE.setCell ⟨H + 1, 2, none⟩ (.slice (some ⟨rt, 0, none⟩) 0 M1)).heap.size = rt by simp [hrt]] at this
              exact this.drew
            · show ((wE.setCell ⟨H + 1, 2, none⟩ (.slice (some ⟨rt, 0, none⟩) 0 M1)).heap.push _).size = rt + 1
              simp [hrt]
          clear hcut k0 k1 k2 kf s0 HE hmkT
          obtain ⟨rw, hrw⟩ : ∃ rw, wz.heap.size = rw := ⟨_, rfl⟩
          have hrw1 : rw = rt + 1 := by rw [← hrw]; exact HZ.out.2.2.2.2
          have k0 := (HZ.out.1.cell (p := ⟨bg, 0, none⟩) lbg).trans g0
          have k1 : wz.cell? ⟨H + 1, 1, none⟩ = some (.slice (some ⟨H, 0, none⟩) (n + 1) (n + 1)) := by rw [cell_of_row _ _ _ _ _ _ HZ.out.2.2.1]; rfl
          have k2 : wz.cell? ⟨H + 1, 3, none⟩ = some (.slice none 0 0) := by rw [cell_of_row _ _ _ _ _ _ HZ.out.2.2.1]; rfl
          have kf : wz.frozen? ⟨H + 1, 3, none⟩ = false := frozen_of_row _ _ _ _ _ HZ.out.2.2.1
          have s0 := HZ.out.2.1.cell (i := n) (by omega)
          rw [← HM1.out] at s0
          have HRW : Hid (rw = rt + 1) := hrw1
          have hrw2 : H + 1 < rw := by omega
          clear hrw1
          go_upto_region 10 with fail
          go_cut [] from 94 to 108 (fun wy => wy = ((wz.setCell ⟨H + 1, 3, none⟩ (.slice (some ⟨rw, 0, none⟩) 0 M1)).alloc (.cells (madeCells #[.float .f64 0] M1) 24)).drew)
          case first =>
            go_region
            all_goals (go_wp2; go_meet; exact rfl)
          case rest =>
            obtain ⟨wy, hwy⟩ : ∃ wy, wy = wc := ⟨_, rfl⟩
            subst hwy
            have HY : Hid (Inv5 w H bi rt rw n N M1 A1 0 wy) := by
              have q0 := HZ.out
              have hrw1 := HRW.out
              rw [hcut]
              refine ⟨((q0.1.setCell (p := ⟨H + 1, 3, none⟩) (by show H ≤ H + 1; omega) _).alloc (by simp; omega) _).drew, ((q0.2.1.setOther (a := ⟨H + 1, 3, none⟩) (by show H ≠ H + 1; omega) _).alloc _).drew, ?_, fun _ => .int .i32 0, fun _ => .float .f64 0, ((q0.2.2.2.1.setOther (a := ⟨H + 1, 3, none⟩) (by show rt ≠ H + 1; omega) _).alloc _).drew, ?_, fun s c hs => by omega⟩
              · rw [st_zero]
                exact (Below.heap_alloc _ _ _ (by simp; omega)).trans ((heap_setCell_same _ _ 3 _ _ _ q0.2.2.1).trans rfl)
              · have := World.rowIs_made (wz.setCell ⟨H + 1, 3, none⟩ (.slice (some ⟨rw, 0, none⟩) 0 M1)) (.float .f64 0) M1 24
                rw [show (wz.setCell ⟨H + 1, 3, none⟩ (.slice (some ⟨rw, 0, none⟩) 0 M1)).heap.size = rw by simp [hrw]] at this
                exact this.drew
            clear hcut k0 k1 k2 kf s0 HZ hmkW
            have k0 := (HY.out.below.cell (p := ⟨bg, 0, none⟩) lbg).trans g0
            go_wp2
            go_loopw [7, 8, 9, 114] (fun _ _ _ v wr => ∃ j : Nat, v = .int .i64 j ∧ j ≤ n ∧ Inv5 w H bi rt rw n N M1 A1 j wr) (fun _ _ _ v _ => n - (intOf v).toNat)
            case atStart => exact ⟨0, rfl, Nat.zero_le _, HY.out⟩
            case round =>
              clear HY k0
              obtain ⟨j, rfl, hj, hinv⟩ := hrel
              by_cases hlt : j < n
              · have hlt' : (j : Int) < n := by omega
                have k1 : wr.cell? ⟨H + 1, 1, none⟩ = some (.slice (some ⟨H, 0, none⟩) (n + 1) (n + 1)) := by rw [cell_of_row _ _ _ _ _ _ hinv.blk]; rfl
                have s0 := hinv.start.cell (i := j) (by omega)
                have s1 := hinv.start.cell (i := j + 1) (by omega)
                have hj1 : (j : Int) + 1 < (n : Int) + 1 := by omega
                have hj2 : (j : Int) < (n : Int) + 1 := by omega
                have hss := st_succ A1 j
                have HI : Hid (Inv5 w H bi rt rw n N M1 A1 j wr) := hinv
                clear hinv
                by_cases hgt : st A1 j < st A1 (j + 1)
                · have hd : decide (st A1 j < st A1 (j + 1)) = true := by simp [hgt]
                  have hd' : (st A1 j : Int) < st A1 (j + 1) := by omega
                  have hrun : run A1 j = run A j := by
                    have := HRUN.out j
                    by_cases hkj : kp j = true
                    · rw [this, if_pos hkj]
                    · rw [if_neg hkj] at this
                      rw [this] at hss
                      simp at hss; omega
                  have hst0 := st_succ A j
                  rw [← hrun] at hst0
                  have hm1 := st_mono A (i := j + 1) (j := n) hlt
                  have hm2 := st_mono A1 (i := j + 1) (j := n) hlt
                  have hMn : st A n = M := by
                    rw [HB.out.hM, HA1.out.2]
                    exact st_all _ _ fun a ha => (arcs_src directed (fun _ => true) F T W (n := n) (fun k hk => (HB.out.sF k hk).1) (fun k hk => (HB.out.sT k hk).1) a ha).1
                  have hMb : M ≤ 131072 := by have := st_le_length A n; omega
                  obtain ⟨m, hm⟩ : ∃ m, m = (run A1 j).length := ⟨_, rfl⟩
                  rw [← hm] at hss hst0
                  have hrunl : (run A j).length = m := by rw [hm, hrun]
                  have HRJ : Hid (run A1 j = run A j ∧ m = (run A1 j).length ∧ st A1 (j + 1) = st A1 j + m ∧ st A (j + 1) = st A j + m ∧ st A n = M ∧ st A (j + 1) ≤ st A n ∧ st A1 (j + 1) ≤ M1) := ⟨hrun, hm, hss, hst0, hMn, hm1, by rw [HM1.out]; exact hm2⟩
                  clear hrun hss hm1 hm2 hrunl hm
                  go_wp2
                  go_quiet (fail)
                  generalize hwL : wr.drewN nq = wL
                  have hI2 : Inv5 w H bi rt rw n N M1 A1 j wL := hwL ▸ HI.out.drewN nq
                  clear hwL k1 s0 s1 HI
                  have HI2 : Hid (Inv5 w H bi rt rw n N M1 A1 j wL) := hI2
                  have HOUT : Hid (Calls Tryf.prog 30 #[.pointer (some ⟨bg, 0, none⟩), .int .i64 j] wL fun e w' => e = .returned (.tuple #[.slice (some ⟨bt, st A j, none⟩) m (M - st A j), .slice (some ⟨bw, st A j, none⟩) m (M - st A j)]) ∧ ∃ q q2, w' = (wL.drewN q).drewN q2) := by
                    have hr := HRJ.out
                    have := out_at wL bg bs bt bw j n (st A j) (st A (j + 1)) M (n + 1) M M hlt (by omega) (by omega) (by omega) (Nat.le_refl _) (Nat.le_refl _)
                      ((hI2.below.cell (p := ⟨bg, 1, none⟩) lbg).trans HB.out.g1) ((hI2.below.cell (p := ⟨bg, 2, none⟩) lbg).trans HB.out.g2) ((hI2.below.cell (p := ⟨bg, 3, none⟩) lbg).trans HB.out.g3)
                      ((hI2.below.cell (p := ⟨bs, j, none⟩) (hH ▸ HB.out.lbs)).trans (HB.out.start j (by omega))) ((hI2.below.cell (p := ⟨bs, j + 1, none⟩) (hH ▸ HB.out.lbs)).trans (HB.out.start (j + 1) (by omega)))
                    rwa [show st A (j + 1) - st A j = m by omega] at this
                  clear hI2
                  go_upto_region 16 with (go_at_call 30; refine HOUT.out.mono ?_; rintro e w' ⟨rfl, q, q2, rfl⟩)
                  generalize hwP : wL.drewN (q + q2) = wP
                  have hI3 : Inv5 w H bi rt rw n N M1 A1 j wP := hwP ▸ HI2.out.drewN (q + q2)
                  clear hwP HI2 HOUT
                  have hr := HRJ.out
                  have hlT : (newsT A1 j).length = m * 1 := by unfold newsT; rw [List.length_map]; omega
                  have hlW : (newsW A1 j).length = m * 1 := by unfold newsW; rw [List.length_map]; omega
                  obtain ⟨nT, hnT⟩ : ∃ nT, nT = newsT A1 j := ⟨_, rfl⟩
                  obtain ⟨nW, hnW⟩ : ∃ nW, nW = newsW A1 j := ⟨_, rfl⟩
                  rw [← hnT] at hlT
                  rw [← hnW] at hlW
                  obtain ⟨fT, fW, hrT, hrW, _⟩ := hI3.rows
                  have hrw1 := HRW.out
                  have hcT : Hid (∀ c u, nT[c]? = some u → wP.cell? ((⟨bt, st A j, none⟩ : Addr).add c) = some u) := fun c u hu => by
                    have hc : c < m := by have := (List.getElem?_eq_some_iff.1 hu).1; omega
                    rw [show (⟨bt, st A j, none⟩ : Addr).add c = ⟨bt, st A j + c, none⟩ by unfold Addr.add; split <;> simp_all]
                    have h1 : c < (run A j).length := by rw [← hr.1]; omega
                    rw [hI3.below.cell (p := ⟨bt, st A j + c, none⟩) (hH ▸ HB.out.lbt), HB.out.tgt j c hlt h1, ← hu, hnT, newsT, hr.1, List.getElem?_map, List.getElem?_eq_getElem h1]; rfl
                  have hcW0 : ∀ c u, nW[c]? = some u → wP.cell? ((⟨bw, st A j, none⟩ : Addr).add c) = some u := fun c u hu => by
                    have hc : c < m := by have := (List.getElem?_eq_some_iff.1 hu).1; omega
                    rw [show (⟨bw, st A j, none⟩ : Addr).add c = ⟨bw, st A j + c, none⟩ by unfold Addr.add; split <;> simp_all]
                    have h1 : c < (run A j).length := by rw [← hr.1]; omega
                    rw [hI3.below.cell (p := ⟨bw, st A j + c, none⟩) (hH ▸ HB.out.lbw), HB.out.wgt j c hlt h1, ← hu, hnW, newsW, hr.1, List.getElem?_map, List.getElem?_eq_getElem h1]; rfl
                  have hoT : Hid (∀ u ∈ nT, u.oneCell' = true) := fun u hu => by rw [hnT, newsT, List.mem_map] at hu; obtain ⟨_, _, rfl⟩ := hu; rfl
                  have hoW : Hid (∀ u ∈ nW, u.oneCell' = true) := fun u hu => by rw [hnW, newsW, List.mem_map] at hu; obtain ⟨_, _, rfl⟩ := hu; rfl
                  have hsT : Hid (∀ c, c < nT.length → (wP.cell? ⟨rt, 0 + st A1 j * 1 + c, none⟩).isSome = true ∧ wP.frozen? ⟨rt, 0 + st A1 j * 1 + c, none⟩ = false) := fun c hc => by
                    rw [show 0 + st A1 j * 1 + c = st A1 j + c by omega, hrT.cell (by omega)]; exact ⟨rfl, hrT.frozen _⟩
                  have k2 : wP.cell? ⟨H + 1, 2, none⟩ = some (.slice (some ⟨rt, 0, none⟩) (st A1 j) M1) := by rw [cell_of_row _ _ _ _ _ _ hI3.blk]; rfl
                  have y2 : (wP.setCells rt (st A1 j) nT).cell? ⟨H + 1, 2, none⟩ = some (.slice (some ⟨rt, 0, none⟩) (st A1 j) M1) := by rw [World.cell?_of_block (heap_setCells_other (show H + 1 ≠ rt by omega) _ _ _)]; exact k2
                  have y2f : (wP.setCells rt (st A1 j) nT).frozen? ⟨H + 1, 2, none⟩ = false := by rw [World.frozen?_setCells]; exact frozen_of_row _ _ _ _ _ hI3.blk
                  have STEP := hI3.step (by omega) hrw2 (by omega)
                  rw [← hnT, ← hnW, hr.2.2.1] at STEP
                  obtain ⟨w2, hw2⟩ : ∃ w2, (wP.setCells rt (st A1 j) nT).setCell ⟨H + 1, 2, none⟩ (.slice (some ⟨rt, 0, none⟩) (st A1 j + m) M1) = w2 := ⟨_, rfl⟩
                  rw [hw2] at STEP
                  have HSTEP : Hid (Inv5 w H bi rt rw n N M1 A1 (j + 1) ((w2.setCells rw (st A1 j) nW).setCell ⟨H + 1, 3, none⟩ (.slice (some ⟨rw, 0, none⟩) (st A1 j + m) M1))) := STEP
                  have hb2 : w2.heap[H + 1]? = some (.cells ((gAt bi H rt rw n N M1 (st A1 j)).setIfInBounds 2 (.slice (some ⟨rt, 0, none⟩) (st A1 j + m) M1)) 46 (0, 0)) := by
                    rw [← hw2]
                    exact heap_setCell_same _ _ 2 _ _ _ ((heap_setCells_other (show H + 1 ≠ rt by omega) _ _ _).trans hI3.blk)
                  have k3 : w2.cell? ⟨H + 1, 3, none⟩ = some (.slice (some ⟨rw, 0, none⟩) (st A1 j) M1) := by rw [cell_of_row _ _ _ _ _ _ hb2]; rfl
                  have y3 : (w2.setCells rw (st A1 j) nW).cell? ⟨H + 1, 3, none⟩ = some (.slice (some ⟨rw, 0, none⟩) (st A1 j) M1) := by rw [World.cell?_of_block (heap_setCells_other (show H + 1 ≠ rw by omega) _ _ _)]; exact k3
                  have y3f : (w2.setCells rw (st A1 j) nW).frozen? ⟨H + 1, 3, none⟩ = false := by rw [World.frozen?_setCells]; exact frozen_of_row _ _ _ _ _ hb2
                  have hrW2 : w2.rowIs rw 24 M1 fW := by
                    rw [← hw2]
                    exact (hrW.of_block (heap_setCells_other (show rw ≠ rt by omega) _ _ _)).setOther (a := ⟨H + 1, 2, none⟩) (by show rw ≠ H + 1; omega) _
                  have hcW : Hid (∀ c u, nW[c]? = some u → w2.cell? ((⟨bw, st A j, none⟩ : Addr).add c) = some u) := fun c u hu => by
                    have hbw := HB.out.lbw
                    rw [← hcW0 c u hu, ← hw2]
                    refine World.cell?_of_block ?_
                    have e : ((⟨bw, st A j, none⟩ : Addr).add c).block = bw := by unfold Addr.add; split <;> rfl
                    rw [e, heap_setCell_other _ _ _ _ (show bw ≠ H + 1 by omega), heap_setCells_other (show bw ≠ rt by omega)]
                  have hsW : Hid (∀ c, c < nW.length → (w2.cell? ⟨rw, 0 + st A1 j * 1 + c, none⟩).isSome = true ∧ w2.frozen? ⟨rw, 0 + st A1 j * 1 + c, none⟩ = false) := fun c hc => by
                    rw [show 0 + st A1 j * 1 + c = st A1 j + c by omega, hrW2.cell (by omega)]; exact ⟨rfl, hrW2.frozen _⟩
                  have hroom : st A1 j + m ≤ M1 := by omega
                  clear STEP hnT hnW hrT hrW hrW2 hcW0 hI3 hb2 hr hrw1
                  go_upto_region 17 with (at_builtin; refine wpList_append_fits _ rfl _ _ 30 rfl 21 i1 1 Tryf.underlying30 hi1 hz11 rt 0 (st A1 j) M1 rfl ⟨bt, st A j, none⟩ m _ nT rfl hlT hcT.out hoT.out hroom hsT.out ?_)
                  clear y2 y2f k2 hw2
                  go_wp2_with (at_builtin; refine wpList_append_fits _ rfl _ _ 32 rfl 24 i4 1 Tryf.underlying32 hi4 hz41 rw 0 (st A1 j) M1 rfl ⟨bw, st A j, none⟩ m _ nW rfl hlW hcW.out hoW.out hroom hsW.out ?_)
                  go_roundw
                  case rel => exact ⟨j + 1, by go_num, hlt, HSTEP.out⟩
                  case measure => simp [intOf]; omega
                · have hd : decide (st A1 j < st A1 (j + 1)) = false := by simp; omega
                  have hd' : ¬ ((st A1 j : Int) < st A1 (j + 1)) := by omega
                  have HF : Hid (Inv5 w H bi rt rw n N M1 A1 (j + 1) wr) := HI.out.skip (by omega)
                  clear hss hgt
                  go_wp2
                  go_quiet (fail)
                  go_wp2
                  go_roundw
                  case rel => exact ⟨j + 1, by go_num, hlt, HF.out.drewN _⟩
                  case measure => simp [intOf]; omega
              · have hge : ¬ ((j : Int) < n) := by omega
                obtain rfl : n = j := by omega
                have HI : Hid (Inv5 w H bi rt rw n N M1 A1 n wr) := hinv
                clear hinv
                go_wp2
                go_ret
                have q := HI.out
                obtain ⟨fT, fW, q3, q4, q5⟩ := q.rows
                have hHw := hH
                unfold CutPost
                refine ⟨M1, H + 1, H, rt, rw, rfl, hH.symm ▸ q.below, ?_⟩
                have hsz := q.below.size
                have hq := q.blk
                rw [← HM1.out] at hq
                exact {
                  g0 := by rw [cell_of_row _ _ _ _ _ _ hq]; rfl
                  g1 := by rw [cell_of_row _ _ _ _ _ _ hq]; rfl
                  g2 := by rw [cell_of_row _ _ _ _ _ _ hq]; rfl
                  g3 := by rw [cell_of_row _ _ _ _ _ _ hq]; rfl
                  g4 := by rw [cell_of_row _ _ _ _ _ _ hq]; rfl
                  lbg := lt_of_blk hq
                  lbi := Nat.lt_of_lt_of_le HB.out.lbi hsz
                  lbs := q.start.lt
                  lbt := q3.lt
                  lbw := q4.lt
                  ids := fun i hi => (q.below.cell (p := ⟨bi, i, none⟩) (hH ▸ HB.out.lbi)).trans (HB.out.ids i hi)
                  start := fun i hi => q.start.cell (by omega)
                  tgt := fun s c hs h => by
                    have hp := place_lt A1 s c n hs h
                    rw [q3.cell (by rw [HM1.out]; exact hp)]
                    exact congrArg some (q5 s c hs h).1
                  wgt := fun s c hs h => by
                    have hp := place_lt A1 s c n hs h
                    rw [q4.cell (by rw [HM1.out]; exact hp)]
                    exact congrArg some (q5 s c hs h).2
                  asc := HB.out.asc
                  sF := HB.out.sF
                  sT := HB.out.sT
                  cov := HB.out.cov
                  hn := HB.out.hn
                  hM := by
                    rw [HM1.out, HA1.out.1]
                    exact st_all _ _ fun a ha => (arcs_src directed kp F T W (n := n) (fun k hk => (HB.out.sF k hk).1) (fun k hk => (HB.out.sT k hk).1) a ha).1 }
end Go.Proofs.Qxb6616522aFmt
