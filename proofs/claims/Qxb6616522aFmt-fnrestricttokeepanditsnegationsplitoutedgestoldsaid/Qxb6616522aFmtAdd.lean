/-
  THE BUILDER: AddEdge.
-/
import Derived.Test.Qxb6616522aFmtCheck
import Derived.Deep.AppendLies
import Derived.WalkKit
namespace Go.Proofs.Qxb6616522aFmt
open Go.RowKit

theorem info21 : (Tryf.prog.info? 21).map (fun i => (i.zero, i.size, i.bytes)) = some (some (.int .i32 0), 1, 4) := by kernel_rfl
theorem info24 : (Tryf.prog.info? 24).map (fun i => (i.zero, i.size, i.bytes)) = some (some (.float .f64 0), 1, 8) := by kernel_rfl

/-- Two values' own blocks are two. -/
def Apart (v u : Value) : Prop := ∀ g, v.ownBlock = some g → u.ownBlock ≠ some g
theorem Apart.symm {v u : Value} (h : Apart v u) : Apart u v := fun g h1 h2 => h g h2 h1
theorem Apart.or {v u : Value} (h : Apart v u) : v.ownBlock = none ∨ v.ownBlock ≠ u.ownBlock := by
  cases hv : v.ownBlock with
  | none => exact .inl rfl
  | some g => exact .inr fun e => h g hv e.symm

/-- THE BUILDER at block b: its three rows, each in a block of its own. -/
structure Bld (b k : Nat) (us vs ws : List Value) (vf vt vw : Value) (w : World) : Prop where
  blk : w.heap[b]? = some (.cells #[vf, vt, vw] 42 (0, 0))
  f : w.ownsRow (b + 1) 21 1 vf k us
  t : w.ownsRow (b + 1) 21 1 vt k vs
  g : w.ownsRow (b + 1) 24 1 vw k ws
  ft : Apart vf vt
  fg : Apart vf vw
  tg : Apart vt vw

theorem lt_of_blk {w : World} {b : Nat} {o : Obj} (h : w.heap[b]? = some o) : b < w.heap.size := by
  rcases Nat.lt_or_ge b w.heap.size with h' | h'
  · exact h'
  · rw [Array.getElem?_eq_none h'] at h; cases h
theorem own_setCell {w : World} {b e size n : Nat} {v : Value} {xs : List Value} (h : w.ownsRow (b + 1) e size v n xs) (i : Nat) (u : Value) : (w.setCell ⟨b, i, none⟩ u).ownsRow (b + 1) e size v n xs := by
  rcases h with ⟨h1, h2 | ⟨g, cap, cur, hv, hg, hbk, h3⟩⟩
  · exact ⟨h1, .inl h2⟩
  · refine ⟨h1, .inr ⟨g, cap, cur, hv, hg, ?_, h3⟩⟩
    rw [heap_setCell_other _ _ _ _ (show g ≠ b by omega)]
    exact hbk
/-- ONE FIELD's append, stored: what stands behind it. -/
structure Put (b e k i : Nat) (cs : Array Value) (xs : List Value) (v v' u : Value) (w w2 : World) : Prop where
  blk : w2.heap[b]? = some (.cells (cs.setIfInBounds i v') 42 (0, 0))
  own : w2.ownsRow (b + 1) e 1 v' (k + 1) (xs ++ [u])
  other : ∀ e' u' n' xs', w.ownsRow (b + 1) e' 1 u' n' xs' → Apart v u' → w2.ownsRow (b + 1) e' 1 u' n' xs' ∧ Apart v' u'
  below : Below b w w2
theorem put_of {b e k i : Nat} {cs : Array Value} {xs : List Value} {v u : Value} {w w1 : World} {o : Obj} {g cap : Nat} (hblk : w.heap[b]? = some (.cells cs 42 (0, 0))) (hv : w.ownsRow (b + 1) e 1 v k xs)
    (hown : w1.ownsRow (b + 1) e 1 (.slice (some ⟨g, 0, none⟩) (k + 1) cap) (k + 1) (xs ++ [u])) (hgrow : (w.alloc o).grownBy w1 v.ownBlock) (hat : v.ownBlock = some g ∨ g = w.heap.size + 1) :
    Put b e k i cs xs v (.slice (some ⟨g, 0, none⟩) (k + 1) cap) u w (w1.setCell ⟨b, i, none⟩ (.slice (some ⟨g, 0, none⟩) (k + 1) cap)) := by
  have hlt := lt_of_blk hblk
  have hne : some b ≠ v.ownBlock := fun e => by have := (hv.lt b e.symm).1; omega
  refine ⟨?_, own_setCell hown _ _, ?_, ?_⟩
  · refine heap_setCell_same _ _ _ _ _ _ ?_
    rw [hgrow.block b (by simp; omega) hne, Below.heap_alloc _ _ _ hlt]; exact hblk
  · intro e' u' n' xs' h1 h2
    refine ⟨own_setCell ((h1.alloc o).kept hgrow h2.symm.or) _ _, ?_⟩
    intro g' hg' hu'
    have : g = g' := by simpa [Value.ownBlock] using hg'
    subst this
    rcases hat with h3 | h3
    · exact h2 g h3 hu'
    · have := (h1.lt g hu').2; omega
  · exact (((Below.refl b w).alloc (by omega) o).grown hgrow (by simp; omega) (fun j hj => by have := (hv.lt j hj).1; omega)).setCell (p := ⟨b, i, none⟩) (Nat.le_refl b) _

set_option maxHeartbeats 2000000 in
set_option maxRecDepth 100000 in
theorem addEdge_at (b k : Nat) (us vs ws : List Value) (vf vt vw : Value) (w : World) (u v : Int) (x : Nat) (h : Bld b k us vs ws vf vt vw w) (hk : k < 1000000) (hu : 0 ≤ u) (hu' : u ≤ 2147483647) (hv : 0 ≤ v) (hv' : v ≤ 2147483647) :
    Calls Tryf.prog 16 #[.pointer (some ⟨b, 0, none⟩), .int .i64 u, .int .i64 v, .float .f64 x] w fun e w' => e = .returned (.tuple #[]) ∧ Below b w w' ∧
      ∃ vf' vt' vw', Bld b (k + 1) (us ++ [.int .i32 u]) (vs ++ [.int .i32 v]) (ws ++ [.float .f64 x]) vf' vt' vw' w' := by
  obtain ⟨i1, hi1, hz10, hz11, hz12⟩ := info_parts info21
  obtain ⟨i4, hi4, hz40, hz41, hz42⟩ := info_parts info24
  have H : Hid (Bld b k us vs ws vf vt vw w) := h
  have hb1 : w.heap[b]? = some (.cells #[vf, vt, vw] 42 (0, 0)) := h.blk
  have hlt := lt_of_blk hb1
  have c0 : w.cell? ⟨b, 0, none⟩ = some vf := by rw [cell_of_row _ _ _ _ _ _ hb1]; rfl
  have f0 : w.frozen? ⟨b, 0, none⟩ = false := frozen_of_row _ _ _ _ _ hb1
  have hf := h.f
  go_enter Tryf.func16, Tryf.ntmps16
  go_wp2_with (at_builtin; refine wpList_append_lies _ rfl _ _ 30 rfl (b + 1) 21 i1 (.int .i32 0) 1 4 Tryf.underlying30 hi1 hz10 hz11 hz12 rfl (by decide) _ _ _ rfl (hf.alloc _) ⟨w.heap.size, 0, none⟩ 1 1 [.int .i32 u] rfl rfl ?c1 ?c2 (by decide) ?c3 ?c4 ?c5 (w.heap.size + 1) ?c6 ?_)
  case c1 =>
    intro j y hj
    match j, hj with
    | 0, hj => simp at hj; subst hj; simp [Addr.add]
  case c2 => intro y hy; simp at hy; subst hy; rfl
  case c3 => unfold maxLen; omega
  case c4 => omega
  case c5 => simp; omega
  case c6 => simp
  intro g1 cap1 w1 hown1 hgrow1 hat1 _
  have P1 := put_of (i := 0) hb1 hf hown1 hgrow1 hat1
  have HP1 : Hid (Put b 21 k 0 #[vf, vt, vw] us vf (.slice (some ⟨g1, 0, none⟩) (k + 1) cap1) (.int .i32 u) w (w1.setCell ⟨b, 0, none⟩ (.slice (some ⟨g1, 0, none⟩) (k + 1) cap1))) := P1
  have d0 : w1.cell? ⟨b, 0, none⟩ = some vf := by
    rw [hgrow1.cell_far ⟨b, 0, none⟩ (by simp; omega) (fun e => by have := (hf.lt b e.symm).1; omega), cell_of_row _ _ _ _ _ _ (show (w.alloc _).heap[b]? = _ by rw [Below.heap_alloc _ _ _ hlt]; exact hb1)]; rfl
  have d1 : w1.frozen? ⟨b, 0, none⟩ = false := by
    rw [hgrow1.frozen_far ⟨b, 0, none⟩ (by simp; omega) (fun e => by have := (hf.lt b e.symm).1; omega)]; exact frozen_of_row _ _ _ _ _ (show (w.alloc _).heap[b]? = _ by rw [Below.heap_alloc _ _ _ hlt]; exact hb1)
  obtain ⟨w2, hw2⟩ : ∃ w2, w1.setCell ⟨b, 0, none⟩ (.slice (some ⟨g1, 0, none⟩) (k + 1) cap1) = w2 := ⟨_, rfl⟩
  rw [hw2] at P1 HP1
  have hb2 : w2.heap[b]? = some (.cells #[.slice (some ⟨g1, 0, none⟩) (k + 1) cap1, vt, vw] 42 (0, 0)) := P1.blk
  have hlt2 := lt_of_blk hb2
  have c1 : w2.cell? ⟨b, 1, none⟩ = some vt := by rw [cell_of_row _ _ _ _ _ _ hb2]; rfl
  have f1 : w2.frozen? ⟨b, 1, none⟩ = false := frozen_of_row _ _ _ _ _ hb2
  have ht := (P1.other _ _ _ _ h.t h.ft).1
  clear P1 hown1 hgrow1 hat1 c0 f0 hb1 hf
  go_wp2_with (at_builtin; refine wpList_append_lies _ rfl _ _ 30 rfl (b + 1) 21 i1 (.int .i32 0) 1 4 Tryf.underlying30 hi1 hz10 hz11 hz12 rfl (by decide) _ _ _ rfl (ht.alloc _) ⟨w2.heap.size, 0, none⟩ 1 1 [.int .i32 v] rfl rfl ?c1 ?c2 (by decide) ?c3 ?c4 ?c5 (w2.heap.size + 1) ?c6 ?_)
  case c1 =>
    intro j y hj
    match j, hj with
    | 0, hj => simp at hj; subst hj; simp [Addr.add]
  case c2 => intro y hy; simp at hy; subst hy; rfl
  case c3 => unfold maxLen; omega
  case c4 => omega
  case c5 => simp; omega
  case c6 => simp
  intro g2 cap2 w3 hown2 hgrow2 hat2 _
  have P2 := put_of (i := 1) hb2 ht hown2 hgrow2 hat2
  have HP2 : Hid (Put b 21 k 1 _ vs vt (.slice (some ⟨g2, 0, none⟩) (k + 1) cap2) (.int .i32 v) w2 (w3.setCell ⟨b, 1, none⟩ (.slice (some ⟨g2, 0, none⟩) (k + 1) cap2))) := P2
  have d0 : w3.cell? ⟨b, 1, none⟩ = some vt := by
    rw [hgrow2.cell_far ⟨b, 1, none⟩ (by simp; omega) (fun e => by have := (ht.lt b e.symm).1; omega), cell_of_row _ _ _ _ _ _ (show (w2.alloc _).heap[b]? = _ by rw [Below.heap_alloc _ _ _ hlt2]; exact hb2)]; rfl
  have d1 : w3.frozen? ⟨b, 1, none⟩ = false := by
    rw [hgrow2.frozen_far ⟨b, 1, none⟩ (by simp; omega) (fun e => by have := (ht.lt b e.symm).1; omega)]; exact frozen_of_row _ _ _ _ _ (show (w2.alloc _).heap[b]? = _ by rw [Below.heap_alloc _ _ _ hlt2]; exact hb2)
  obtain ⟨w4, hw4⟩ : ∃ w4, w3.setCell ⟨b, 1, none⟩ (.slice (some ⟨g2, 0, none⟩) (k + 1) cap2) = w4 := ⟨_, rfl⟩
  rw [hw4] at P2 HP2
  have hb4 : w4.heap[b]? = some (.cells #[.slice (some ⟨g1, 0, none⟩) (k + 1) cap1, .slice (some ⟨g2, 0, none⟩) (k + 1) cap2, vw] 42 (0, 0)) := P2.blk
  have hlt4 := lt_of_blk hb4
  have c2 : w4.cell? ⟨b, 2, none⟩ = some vw := by rw [cell_of_row _ _ _ _ _ _ hb4]; rfl
  have f2 : w4.frozen? ⟨b, 2, none⟩ = false := frozen_of_row _ _ _ _ _ hb4
  have hg := (P2.other _ _ _ _ (HP1.out.other _ _ _ _ h.g h.fg).1 h.tg).1
  clear P2 hown2 hgrow2 hat2 c1 f1 hb2 ht
  go_wp2_with (at_builtin; refine wpList_append_lies _ rfl _ _ 32 rfl (b + 1) 24 i4 (.float .f64 0) 1 8 Tryf.underlying32 hi4 hz40 hz41 hz42 rfl (by decide) _ _ _ rfl (hg.alloc _) ⟨w4.heap.size, 0, none⟩ 1 1 [.float .f64 x] rfl rfl ?c1 ?c2 (by decide) ?c3 ?c4 ?c5 (w4.heap.size + 1) ?c6 ?_)
  case c1 =>
    intro j y hj
    match j, hj with
    | 0, hj => simp at hj; subst hj; simp [Addr.add]
  case c2 => intro y hy; simp at hy; subst hy; rfl
  case c3 => unfold maxLen; omega
  case c4 => omega
  case c5 => simp; omega
  case c6 => simp
  intro g3 cap3 w5 hown3 hgrow3 hat3 _
  have P3 := put_of (i := 2) hb4 hg hown3 hgrow3 hat3
  have HP3 : Hid (Put b 24 k 2 _ ws vw (.slice (some ⟨g3, 0, none⟩) (k + 1) cap3) (.float .f64 x) w4 (w5.setCell ⟨b, 2, none⟩ (.slice (some ⟨g3, 0, none⟩) (k + 1) cap3))) := P3
  have d0 : w5.cell? ⟨b, 2, none⟩ = some vw := by
    rw [hgrow3.cell_far ⟨b, 2, none⟩ (by simp; omega) (fun e => by have := (hg.lt b e.symm).1; omega), cell_of_row _ _ _ _ _ _ (show (w4.alloc _).heap[b]? = _ by rw [Below.heap_alloc _ _ _ hlt4]; exact hb4)]; rfl
  have d1 : w5.frozen? ⟨b, 2, none⟩ = false := by
    rw [hgrow3.frozen_far ⟨b, 2, none⟩ (by simp; omega) (fun e => by have := (hg.lt b e.symm).1; omega)]; exact frozen_of_row _ _ _ _ _ (show (w4.alloc _).heap[b]? = _ by rw [Below.heap_alloc _ _ _ hlt4]; exact hb4)
  clear P3
  go_wp2
  go_end0
  have Q1 := HP1.out
  have Q2 := HP2.out
  have Q3 := HP3.out
  have A := Q1.other _ _ _ _ h.t h.ft
  have C := Q1.other _ _ _ _ h.g h.fg
  have D := Q2.other _ _ _ _ Q1.own A.2.symm
  have E := Q2.other _ _ _ _ C.1 h.tg
  have F := Q3.other _ _ _ _ D.1 C.2.symm
  have G := Q3.other _ _ _ _ Q2.own E.2.symm
  exact ⟨rfl, (Q1.below.trans Q2.below).trans Q3.below, _, _, _, ⟨Q3.blk, F.1, G.1, Q3.own, D.2.symm, F.2.symm, G.2.symm⟩⟩
end Go.Proofs.Qxb6616522aFmt
