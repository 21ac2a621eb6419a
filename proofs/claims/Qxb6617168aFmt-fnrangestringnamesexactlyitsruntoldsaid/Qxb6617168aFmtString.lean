/-
  THE WALK OF (ValidatorSet).String at a set of no run and of one.
-/
import Derived.Test.Qxb6617168aFmtShelf
import Derived.Test.Qxb6617168aFmtBuilder
import Derived.Test.Qxb6617168aFmtContains
import Derived.Lib.AppendIntMem
import Derived.Lib.ItoaLen
import Derived.WalkKit
import Derived.WalkSmall
namespace Go.Proofs.Qxb6617168aFmt.str
open Go.Shelf Go.RowKit

/-- The name of the table of powers of ten: the first on the row's list of what it names. -/
def tab : String := Rows.fnRangeStringNamesExactlyItsRunRow.named.headD ""

/-- What String writes of the one run lo .. hi-1. -/
def runText (lo hi : Int) : List UInt8 := if lo < hi - 1 then Lib.itoa lo ++ 45 :: Lib.itoa (hi - 1) else Lib.itoa lo

theorem ownsRowF_below {w w' : World} {B : Nat} {e : TypeId} {size : Nat} {v : Value} {n : Nat} {xs : List Value} (h : w.ownsRowF B e size v n xs) (hb : Below w.heap.size w w') : w'.ownsRowF B e size v n xs := by
  refine ⟨h.1, ?_⟩
  rcases h.2 with h2 | ⟨g, cap, cur, fz, hv, h1, hg, hr⟩
  · exact .inl h2
  · refine .inr ⟨g, cap, cur, fz, hv, h1, ?_, hr⟩
    have hlt : g < w.heap.size := by
      rcases Nat.lt_or_ge g w.heap.size with h' | h'
      · exact h'
      · simp [Array.getElem?_eq_none h'] at hg
    rw [hb.block g hlt]; exact hg
theorem builder_below {T e : TypeId} {w w' : World} {B b : Nat} {bs : List Value} (h : Lib.IsBuilderF T e B b bs w) (hb : Below w.heap.size w w') : Lib.IsBuilderF T e B b bs w' := by
  have one : ∀ p, Lib.BuilderAtF T e B b p bs w → Lib.BuilderAtF T e B b p bs w' := by
    intro p hp
    have hlt := hp.lt
    obtain ⟨hB, v, hbk, hown, hne⟩ := hp
    exact ⟨hB, v, by rw [hb.block b hlt]; exact hbk, ownsRowF_below hown hb, hne⟩
  exact h.elim (fun x => .inl (one _ x)) (fun x => .inr (one _ x))

theorem itoa (n : Int) (h0 : -9223372036854775808 ≤ n) (h1 : n ≤ 9223372036854775807) (w : World) (htab : Lib.TabIs Tryf.prog w tab .u64 Lib.pow10Tab) :
    Calls Tryf.prog 14 #[.int .i64 n] w fun e w' => e = .returned (.string ⟨(Lib.itoa n).toArray⟩) ∧ Below w.heap.size w w' := by
  refine (Any.strconv_Itoa Tryf.laysM171 n h0 h1 w htab).mono ?_
  rintro e w' ⟨rfl, k, os, rfl⟩
  exact ⟨rfl, Lib.below_grow _ w (Nat.le_refl _) k os⟩

theorem fresh (w : World) (v : Value) : Lib.IsBuilderF 41 5 (w.heap.size + 1) (w.heap.size + 1) (Lib.byteCells []) ((w.alloc (.cells #[v] 24)).alloc (.cells #[.pointer none, .slice none 0 0] 41)) := by
  have h := Lib.IsBuilderF.of (Lib.fresh_isBuilder 41 5 (w.alloc (.cells #[v] 24)))
  have hs : (w.alloc (.cells #[v] 24)).heap.size = w.heap.size + 1 := by simp
  rw [hs] at h
  exact h

set_option maxHeartbeats 400000 in
theorem string_none (w : World) :
    Calls Tryf.prog 7 #[.agg #[.slice none 0 0]] w fun e w' => e = .returned (.string ⟨#[]⟩) ∧ Below w.heap.size w w' := by
  have hf := fresh w (.slice none 0 0)
  go_enter Tryf.func7, Tryf.ntmps7
  go_wp2
  go_loop [9] (fun i => i = .int .i64 0) (fun _ => 0)
  case atStart => rfl
  case round =>
    subst hrel
    go_wp2_with (go_at_call 15; refine (Tryf.Builder_String_any_k (w.heap.size + 1) (w.heap.size + 1) [] _ hf (by simp)).mono ?_; rintro e w' ⟨rfl, hb, hbel, ho⟩)
    go_ret
    exact ⟨rfl, (((Below.refl _ w).alloc (Nat.le_refl _) _).alloc (by simp) _).trans (hbel.mono (by simp))⟩

theorem cells_heap {w : World} {b : Nat} {lo hi : Int} (h : w.heap[b]? = some (.cells #[.int .i64 lo, .int .i64 hi] 34 (0, 0))) : w.cell? ⟨b, 0, none⟩ = some (.int .i64 lo) ∧ w.cell? ⟨b, 1, none⟩ = some (.int .i64 hi) := by
  constructor <;> (rw [Lib.cell_of_heap h]; rfl)

set_option maxHeartbeats 1000000 in
theorem string_one (lo hi : Int) (h0 : 0 ≤ lo) (h1 : lo < hi) (h2 : hi ≤ 9223372036854775807) (b off : Nat) (w : World) (hb : b < w.heap.size) (c0 : w.cell? ⟨b, off, none⟩ = some (.int .i64 lo)) (c1 : w.cell? ⟨b, off + 1, none⟩ = some (.int .i64 hi))
    (htab : Lib.TabIs Tryf.prog w tab .u64 Lib.pow10Tab) :
    Calls Tryf.prog 7 #[.agg #[.slice (some ⟨b, off, none⟩) 1 1]] w fun e w' => e = .returned (.string ⟨(runText lo hi).toArray⟩) ∧ Below w.heap.size w w' := by
  have hf := fresh w (.slice (some ⟨b, off, none⟩) 1 1)
  have hT := Lib.tabBelow_of_tabIs htab
  have hb1 : b < w.heap.size + 1 := by omega
  have hb2 : b < w.heap.size + 1 + 1 := by omega
  go_enter Tryf.func7, Tryf.ntmps7
  go_wp2
  go_loopw [9] (fun i wr => (i = .int .i64 0 ∧ wr = (w.alloc (.cells #[.slice (some ⟨b, off, none⟩) 1 1] 24)).alloc (.cells #[.pointer none, .slice none 0 0] 41)) ∨ (i = .int .i64 1 ∧ Lib.IsBuilderF 41 5 (w.heap.size + 1) (w.heap.size + 1) (Lib.byteCells (runText lo hi)) wr ∧ Below w.heap.size w wr ∧ w.heap.size + 1 ≤ wr.heap.size)) (fun i _ => (1 - intOf i).toNat)
  case atStart => exact .inl ⟨rfl, rfl⟩
  case round =>
    rcases hrel with ⟨rfl, rfl⟩ | ⟨rfl, hbd, hbel, hsz⟩
    · have HB1 : Below w.heap.size w (((w.alloc (.cells #[.slice (some ⟨b, off, none⟩) 1 1] 24)).alloc (.cells #[.pointer none, .slice none 0 0] 41)).alloc (.cells #[.int .i64 lo, .int .i64 hi] 34)) :=
        (((Below.refl _ w).alloc (Nat.le_refl _) _).alloc (by simp) _).alloc (by simp; omega) _
      have HR : (((w.alloc (.cells #[.slice (some ⟨b, off, none⟩) 1 1] 24)).alloc (.cells #[.pointer none, .slice none 0 0] 41)).alloc (.cells #[.int .i64 lo, .int .i64 hi] 34)).heap[w.heap.size + 1 + 1]? = some (.cells #[.int .i64 lo, .int .i64 hi] 34 (0, 0)) := by
        have h := heap_alloc_new ((w.alloc (.cells #[.slice (some ⟨b, off, none⟩) 1 1] 24)).alloc (.cells #[.pointer none, .slice none 0 0] 41)) (.cells #[.int .i64 lo, .int .i64 hi] 34)
        have hs : ((w.alloc (.cells #[.slice (some ⟨b, off, none⟩) 1 1] 24)).alloc (.cells #[.pointer none, .slice none 0 0] 41)).heap.size = w.heap.size + 1 + 1 := by simp
        rw [hs] at h
        exact h
      have HS : (((w.alloc (.cells #[.slice (some ⟨b, off, none⟩) 1 1] 24)).alloc (.cells #[.pointer none, .slice none 0 0] 41)).alloc (.cells #[.int .i64 lo, .int .i64 hi] 34)).heap.size = w.heap.size + 1 + 1 + 1 := by simp
      have HF := hf.alloc (.cells #[.int .i64 lo, .int .i64 hi] 34)
      go_wp2_with fail
      refine (itoa lo (by omega) (by omega) _ (hT.on HB1).here).mono ?_
      rintro e w1 ⟨rfl, hB1⟩
      have hbd1 := builder_below HF hB1
      have hbel1 : Below w.heap.size w w1 := HB1.trans (hB1.mono (by rw [HS]; omega))
      have hr1 : w1.heap[w.heap.size + 1 + 1]? = some (.cells #[.int .i64 lo, .int .i64 hi] 34 (0, 0)) := by rw [hB1.block _ (by rw [HS]; omega)]; exact HR
      have hs1 : w.heap.size + 1 + 1 + 1 ≤ w1.heap.size := by have := hB1.size; rw [HS] at this; exact this
      clear HB1 HR HS HF hf hB1
      have hl1 := Lib.itoa_length_le lo (by omega) (by omega)
      have hl2 := Lib.itoa_length_le (hi - 1) (by omega) (by omega)
      go_wp2_with fail
      refine (writeString (w.heap.size + 1) (w.heap.size + 1) _ ⟨(Lib.itoa lo).toArray⟩ w1 hbd1 (by simp [Lib.byteCells, ByteArray.size]; omega) (by omega)).mono ?_
      rintro e w2 ⟨rfl, hbd2, hB2, hO2⟩
      have hr2 := hO2 _ _ hr1 (by simp) (by intro c fz h; simp at h)
      have hbel2 : Below w.heap.size w w2 := hbel1.trans (hB2.mono (by omega))
      have hs2 : w.heap.size + 1 + 1 + 1 ≤ w2.heap.size := by have := hB2.size; omega
      obtain ⟨d0, d1⟩ := cells_heap hr2
      clear hr1 hbd1 hB2 hO2 hbel1 hs1
      by_cases hgt : lo < hi - 1
      · go_wp2_with fail
        refine (writeByte (w.heap.size + 1) (w.heap.size + 1) _ 45 w2 (.inr hbd2) (by simp [Lib.byteCells, Lib.strCells]; omega) (by omega)).mono ?_
        rintro e w3 ⟨rfl, hbd3, hB3, hO3⟩
        have hr3 := hO3 _ _ hr2 (by simp) (by intro c fz h; simp at h)
        have hbel3 : Below w.heap.size w w3 := hbel2.trans (hB3.mono (by omega))
        have hs3 : w.heap.size + 1 + 1 + 1 ≤ w3.heap.size := by have := hB3.size; omega
        clear d0 d1
        obtain ⟨d0, d1⟩ := cells_heap hr3
        clear hr2 hr3 hbd2 hB3 hO3 hbel2 hs2
        go_wp2_with fail
        refine (itoa (hi - 1) (by omega) (by omega) _ (hT.on hbel3).here).mono ?_
        rintro e w4 ⟨rfl, hB4⟩
        have hbd4 := builder_below (.inr hbd3) hB4
        have hbel4 : Below w.heap.size w w4 := hbel3.trans (hB4.mono (by omega))
        have hs4 : w.heap.size + 1 + 1 + 1 ≤ w4.heap.size := by have := hB4.size; omega
        clear hbd3 hB4 hbel3 hs3 d0 d1
        go_wp2_with fail
        refine (writeString (w.heap.size + 1) (w.heap.size + 1) _ ⟨(Lib.itoa (hi - 1)).toArray⟩ w4 hbd4 (by simp [Lib.byteCells, Lib.strCells, ByteArray.size]; omega) (by omega)).mono ?_
        rintro e w5 ⟨rfl, hbd5, hB5, hO5⟩
        have hbel5 : Below w.heap.size w w5 := hbel4.trans (hB5.mono (by omega))
        have hs5 : w.heap.size + 1 ≤ w5.heap.size := by have := hB5.size; omega
        have he : Lib.byteCells [] ++ Lib.strCells ⟨(Lib.itoa lo).toArray⟩ ++ [.int .u8 45] ++ Lib.strCells ⟨(Lib.itoa (hi - 1)).toArray⟩ = Lib.byteCells (runText lo hi) := by
          simp [runText, hgt, Lib.byteCells, Lib.strCells]
        rw [he] at hbd5
        clear he hB5 hO5 hbd4
        go_wp2
        go_roundw
        case rel => exact .inr ⟨rfl, .inr hbd5, hbel5, hs5⟩
        case measure => simp [intOf]
      · have he : Lib.byteCells [] ++ Lib.strCells ⟨(Lib.itoa lo).toArray⟩ = Lib.byteCells (runText lo hi) := by
          simp [runText, hgt, Lib.byteCells, Lib.strCells]
        rw [he] at hbd2
        clear he
        go_wp2
        go_roundw
        case rel => exact .inr ⟨rfl, .inr hbd2, hbel2, by omega⟩
        case measure => simp [intOf]
    · go_wp2_with (go_at_call 15; refine (Tryf.Builder_String_any_k (w.heap.size + 1) (w.heap.size + 1) _ _ hbd hsz).mono ?_; rintro e w' ⟨rfl, hb', hbel', ho'⟩)
      go_ret
      exact ⟨rfl, hbel.trans (hbel'.mono (by omega))⟩
end Go.Proofs.Qxb6617168aFmt.str
