/-
  buildGraph; Edges; ZZParts; the bound.
-/
import Derived.Test.Qxb6616522aFmtGraph
import Derived.Test.Qxb6616522aFmtOpen
import Derived.Deep.RegionWith
namespace Go.Proofs.Qxb6616522aFmt
open Go.RowKit

theorem edges_at (bg : Nat) (z : Int) (w : World) (h : w.cell? ⟨bg, 4, none⟩ = some (.int .i64 z)) :
    Calls Tryf.prog 8 #[.pointer (some ⟨bg, 0, none⟩)] w fun e w' => e = .returned (.int .i64 z) ∧ w' = w := by
  go_enter Tryf.func8, Tryf.ntmps8
  go_wp2
  go_ret
  exact ⟨rfl, rfl⟩
theorem parts_at (bg : Nat) (a0 a1 a2 a3 : Option Addr) (n0 n1 n2 n3 c0 c1 c2 c3 : Nat) (w : World) (h0 : w.cell? ⟨bg, 0, none⟩ = some (.slice a0 n0 c0)) (h1 : w.cell? ⟨bg, 1, none⟩ = some (.slice a1 n1 c1)) (h2 : w.cell? ⟨bg, 2, none⟩ = some (.slice a2 n2 c2)) (h3 : w.cell? ⟨bg, 3, none⟩ = some (.slice a3 n3 c3)) :
    Calls Tryf.prog 9 #[.pointer (some ⟨bg, 0, none⟩)] w fun e w' => e = .returned (.tuple #[.slice a0 n0 c0, .slice a1 n1 c1, .slice a2 n2 c2, .slice a3 n3 c3]) ∧ ∃ q, w' = w.drewN q := by
  go_enter Tryf.func9, Tryf.ntmps9
  go_wp2
  go_quiet (fail)
  go_wp2
  (try simp only [Exit.inBlock, Exit.then])
  refine bodyPost_ret (by simp [results, Tryf.results9, go_sem]; try rfl) rfl ?_
  exact ⟨rfl, _, rfl⟩

set_option maxHeartbeats 2000000 in
set_option maxRecDepth 100000 in
theorem build_at (w : World) (N be oe ce : Nat) (ea : Option Addr) (U V : Nat → Int) (W : Nat → Nat) (directed : Bool) (E : Edges w N ea be oe U V W) (hN : N ≤ 65536) (hpos : ∀ k, k < N → 0 ≤ U k ∧ 0 ≤ V k) :
    Calls Tryf.prog 7 #[.slice ea N ce, .bool directed] w fun e w' => GraphPost w N U V W directed e w' := by
  obtain ⟨b, hb⟩ : ∃ b, w.heap.size = b := ⟨_, rfl⟩
  have HE : Hid (Edges w N ea be oe U V W) := E
  have HP : Hid (∀ k, k < N → 0 ≤ U k ∧ 0 ≤ V k) := hpos
  have START : Hid (Below b w (w.alloc (.cells #[.slice none 0 0, .slice none 0 0, .slice none 0 0] 42)) ∧ Bld b 0 [] [] [] (.slice none 0 0) (.slice none 0 0) (.slice none 0 0) (w.alloc (.cells #[.slice none 0 0, .slice none 0 0, .slice none 0 0] 42))) := by
    subst hb
    refine ⟨(Below.refl _ _).alloc (Nat.le_refl _) _, ?_, World.ownsRow_nil _ _ _ _, World.ownsRow_nil _ _ _ _, World.ownsRow_nil _ _ _ _, ?_, ?_, ?_⟩
    · show (w.heap.push _)[w.heap.size]? = _
      rw [Array.getElem?_push, if_pos rfl]
    all_goals intro g hg; cases hg
  clear E hpos
  go_enter Tryf.func7, Tryf.ntmps7
  go_wp2
  go_loopw [6] (fun v wr => ∃ (j : Nat) (vf vt vw : Value), v = .int .i64 j ∧ j ≤ N ∧ Below b w wr ∧ Bld b j ((List.range j).map fun k => .int .i32 (U k)) ((List.range j).map fun k => .int .i32 (V k)) ((List.range j).map fun k => .float .f64 (W k)) vf vt vw wr ∧ (j = 0 → vf = .slice none 0 0 ∧ vt = .slice none 0 0 ∧ vw = .slice none 0 0)) (fun v _ => N - (intOf v).toNat)
  case atStart => exact ⟨0, _, _, _, rfl, Nat.zero_le _, START.out.1, START.out.2, fun _ => ⟨rfl, rfl, rfl⟩⟩
  case round =>
    clear START
    obtain ⟨j, vf, vt, vw, rfl, hj, hbl, hB, hnil⟩ := hrel
    by_cases hlt : j < N
    · have hlt' : (j : Int) < N := by omega
      have ea1 := HE.out.at_ (by omega)
      have lbe := HE.out.lbe (by omega)
      rw [hb] at lbe
      subst ea1
      have k0 := (hbl.cell (p := ⟨be, oe + j * 3, none⟩) lbe).trans (HE.out.eU j hlt)
      have k1 := (hbl.cell (p := ⟨be, oe + j * 3 + 1, none⟩) lbe).trans (HE.out.eV j hlt)
      have k2 := (hbl.cell (p := ⟨be, oe + j * 3 + 2, none⟩) lbe).trans (HE.out.eW j hlt)
      have hp := HP.out j hlt
      have u1 := hp.1
      have u2 := HE.out.hU j hlt
      have v1 := hp.2
      have v2 := HE.out.hV j hlt
      have hB2 : Bld b j ((List.range j).map fun k => .int .i32 (U k)) ((List.range j).map fun k => .int .i32 (V k)) ((List.range j).map fun k => .float .f64 (W k)) vf vt vw wr.drew := ⟨hB.blk, hB.f, hB.t, hB.g, hB.ft, hB.fg, hB.tg⟩
      have HCALL : Hid (Calls Tryf.prog 16 #[.pointer (some ⟨b, 0, none⟩), .int .i64 (IntKind.i64.wrap (U j)), .int .i64 (IntKind.i64.wrap (V j)), .float .f64 (W j)] wr.drew fun e w' => e = .returned (.tuple #[]) ∧ Below b wr.drew w' ∧
          ∃ vf' vt' vw', Bld b (j + 1) ((List.range (j + 1)).map fun k => .int .i32 (U k)) ((List.range (j + 1)).map fun k => .int .i32 (V k)) ((List.range (j + 1)).map fun k => .float .f64 (W k)) vf' vt' vw' w') := by
        have := addEdge_at b j _ _ _ vf vt vw wr.drew (U j) (V j) (W j) hB2 (by omega) u1 u2 v1 v2
        simp only [List.range_succ, List.map_append, List.map_cons, List.map_nil]
        rw [show IntKind.i64.wrap (U j) = U j by rw [IntKind.wrap_i64]; omega, show IntKind.i64.wrap (V j) = V j by rw [IntKind.wrap_i64]; omega]
        exact this
      clear hB hB2 hp hnil
      go_wp2
      go_region_with (go_at_call 16; refine HCALL.out.mono ?_; rintro e w' ⟨rfl, hb2, vf', vt', vw', hB3⟩)
      all_goals
        have HX : Hid (Below b w w' ∧ Bld b (j + 1) ((List.range (j + 1)).map fun k => .int .i32 (U k)) ((List.range (j + 1)).map fun k => .int .i32 (V k)) ((List.range (j + 1)).map fun k => .float .f64 (W k)) vf' vt' vw' w') := ⟨hbl.drew.trans hb2, hB3⟩
        clear hb2 hB3 HCALL k0 k1 k2
        go_wp2
        go_roundw
        case rel => exact ⟨j + 1, vf', vt', vw', by go_num, hlt, HX.out.1, HX.out.2, fun h => by omega⟩
        case measure => simp [intOf]; omega
    · have hge : ¬ ((j : Int) < N) := by omega
      obtain rfl : N = j := by omega
      have HC : Hid (Calls Tryf.prog 17 #[.pointer (some ⟨b, 0, none⟩), .bool directed] wr fun e w' => GraphPost w N U V W directed e w') := by
        refine (graph_at wr b N vf vt vw U V W directed hB hnil hN).mono ?_
        rintro e w' ⟨n, M, bg, bi, bs, bt, bw, I, F, T, h1, h2, h3⟩
        have := hbl.size
        exact ⟨n, M, bg, bi, bs, bt, bw, I, F, T, h1, hb ▸ hbl.trans (h2.mono (by omega)), h3⟩
      clear hbl hB hnil hlt hj
      go_wp2_with (go_at_call 17; refine HC.out.mono ?_)
      rintro e w' hpost
      obtain ⟨n, M, bg, bi, bs, bt, bw, I, F, T, rfl, h2, h3⟩ := hpost
      go_wp2
      go_ret
      exact ⟨n, M, bg, bi, bs, bt, bw, I, F, T, rfl, h2, h3⟩
end Go.Proofs.Qxb6616522aFmt
