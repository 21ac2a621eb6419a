/-
  ZZRestrictMask.
-/
import Derived.Test.Qxb6616522aFmtLaw3
import Derived.Test.Qxb6616522aFmtCut
namespace Go.Proofs.Qxb6616522aFmt
open Go.RowKit

theorem Built.below {w w' : World} {n N M bg bi bs bt bw : Nat} {I U V : Nat → Int} {W F T : Nat → Nat} {A : List Arc} (h : Built w n N M bg bi bs bt bw I U V W F T A) (hb : Below w.heap.size w w') : Built w' n N M bg bi bs bt bw I U V W F T A :=
  ⟨(hb.cell (p := ⟨bg, 0, none⟩) h.lbg).trans h.g0, (hb.cell (p := ⟨bg, 1, none⟩) h.lbg).trans h.g1, (hb.cell (p := ⟨bg, 2, none⟩) h.lbg).trans h.g2, (hb.cell (p := ⟨bg, 3, none⟩) h.lbg).trans h.g3, (hb.cell (p := ⟨bg, 4, none⟩) h.lbg).trans h.g4,
   Nat.lt_of_lt_of_le h.lbg hb.size, Nat.lt_of_lt_of_le h.lbi hb.size, Nat.lt_of_lt_of_le h.lbs hb.size, Nat.lt_of_lt_of_le h.lbt hb.size, Nat.lt_of_lt_of_le h.lbw hb.size,
   fun i hi => (hb.cell (p := ⟨bi, i, none⟩) h.lbi).trans (h.ids i hi), fun i hi => (hb.cell (p := ⟨bs, i, none⟩) h.lbs).trans (h.start i hi),
   fun s c hs hc => (hb.cell (p := ⟨bt, st A s + c, none⟩) h.lbt).trans (h.tgt s c hs hc), fun s c hs hc => (hb.cell (p := ⟨bw, st A s + c, none⟩) h.lbw).trans (h.wgt s c hs hc),
   h.asc, h.sF, h.sT, h.cov, h.hn, h.hM⟩

set_option maxHeartbeats 2000000 in
set_option maxRecDepth 100000 in
theorem rmask_at (w : World) (n N M bg bi bs bt bw m : Nat) (kv : Value) (K : Nat → Bool) (I U V : Nat → Int) (W F T : Nat → Nat) (directed : Bool) (A A1 : List Arc)
    (B : Built w n N M bg bi bs bt bw I U V W F T A) (hA : A = arcs directed (fun _ => true) F T W N) (hA1 : A1 = arcs directed (mask m K) F T W N) (hN : N ≤ 65536) (hK : Mask w kv m K) :
    Calls Tryf.prog 12 #[.pointer (some ⟨bg, 0, none⟩), kv] w fun e w' => CutPost w n N bi I U V W F T A1 e w' := by
  have hmf : ∀ (fn : Fn) (first cap : Array Value) (w : World), (Instr.makeFunc fn first cap).run Tryf.prog w = .ok (.func fn first cap) w := fun _ _ _ _ => rfl
  obtain ⟨ko, kc, kb, hkv, h2, h3⟩ := hK.form
  subst hkv
  obtain ⟨bk, hbk⟩ : ∃ bk, w.heap.size = bk := ⟨_, rfl⟩
  obtain ⟨w1, hw1⟩ : ∃ w1, w.alloc (.cells #[.slice ko m kc] 36) = w1 := ⟨_, rfl⟩
  have hb1 : Below w.heap.size w w1 := by rw [← hw1]; exact (Below.refl _ _).alloc (Nat.le_refl _) _
  have hc1 : w1.heap[bk]? = some (.cells #[.slice ko m kc] 36 (0, 0)) := by
    rw [← hw1, ← hbk]
    show (w.heap.push _)[w.heap.size]? = _
    rw [Array.getElem?_push, if_pos rfl]
  have HCALL : Hid (Calls Tryf.prog 21 #[.pointer (some ⟨bg, 0, none⟩), .func (.func 22) #[] #[.pointer (some ⟨bk, 0, none⟩)]] w1 fun e w' => CutPost w n N bi I U V W F T A1 e w') := by
    refine (cut_at w1 n N M bg bi bs bt bw bk I U V W F T directed (mask m K) A A1 (B.below hb1) hA hA1 hN ?_).mono ?_
    · intro wr hwr i _
      refine closure_at (m := m) (K := K) ((hK.below hb1).below hwr) bk i ?_
      rw [hwr.cell (p := ⟨bk, 0, none⟩) (lt_of_blk hc1), cell_of_row _ _ _ _ _ _ hc1]; rfl
    · rintro e w' ⟨M1, rg, rs, rt, rw, h1, h2, h3⟩
      exact ⟨M1, rg, rs, rt, rw, h1, hb1.trans (h2.mono hb1.size), h3⟩
  clear hK B h2 h3 hb1 hc1
  go_enter Tryf.func12, Tryf.ntmps12
  go_wp2_with (go_at_call 21; refine HCALL.out.mono ?_)
  rintro e w' ⟨M1, rg, rs, rt, rw, rfl, h2, h3⟩
  go_wp2
  go_ret
  exact ⟨M1, rg, rs, rt, rw, rfl, h2, h3⟩
end Go.Proofs.Qxb6616522aFmt
