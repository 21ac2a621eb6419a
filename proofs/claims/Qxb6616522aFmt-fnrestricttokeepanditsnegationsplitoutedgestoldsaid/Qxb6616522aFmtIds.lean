/-
  THE IDS: sorted, then compacted: strictly ascending, with the same members.
-/
import Derived.Test.Qxb6616522aFmtAdd
import Derived.Test.Qxb6616522aFmtSortTop
import Derived.Sort.AssemblyPlain
namespace Go.Proofs.Qxb6616522aFmt
open Go.RowKit Go.Sort Go.Lib

theorem compact_asc (d : Array Int) (m : Nat) (h : ∀ i j, i ≤ j → j < m → d[i]! ≤ d[j]!) :
    (compactUpTo d m).Pairwise (· < ·) ∧ (∀ x ∈ compactUpTo d m, ∃ j, j < m ∧ d[j]! = x) ∧ (∀ j, j < m → d[j]! ∈ compactUpTo d m) ∧ (compactUpTo d m).length ≤ m := by
  induction m with
  | zero => exact ⟨by simp [compactUpTo], by simp [compactUpTo], by simp, by simp [compactUpTo]⟩
  | succ m ih =>
    obtain ⟨h1, h2, h3, h4⟩ := ih fun i j hij hj => h i j hij (by omega)
    rw [compactUpTo_succ]
    by_cases hk : keeps d m = true
    · rw [if_pos hk]
      refine ⟨?_, ?_, ?_, by simp; omega⟩
      · rw [List.pairwise_append]
        refine ⟨h1, by simp, ?_⟩
        intro x hx y hy
        rw [List.mem_singleton] at hy; subst hy
        obtain ⟨j, hj, rfl⟩ := h2 x hx
        have e1 := h j (m - 1) (by omega) (by omega)
        have e2 := h (m - 1) m (by omega) (by omega)
        have e3 : d[m]! ≠ d[m - 1]! := by
          intro e
          rw [keeps_neg (by omega) e] at hk; cases hk
        omega
      · intro x hx
        rw [List.mem_append, List.mem_singleton] at hx
        rcases hx with hx | rfl
        · obtain ⟨j, hj, e⟩ := h2 x hx; exact ⟨j, by omega, e⟩
        · exact ⟨m, by omega, rfl⟩
      · intro j hj
        rw [List.mem_append, List.mem_singleton]
        rcases Nat.lt_or_ge j m with h5 | h5
        · exact .inl (h3 j h5)
        · obtain rfl : j = m := by omega
          exact .inr rfl
    · rw [if_neg hk, List.append_nil]
      refine ⟨h1, fun x hx => ?_, ?_, by omega⟩
      · obtain ⟨j, hj, e⟩ := h2 x hx; exact ⟨j, by omega, e⟩
      · intro j hj
        rcases Nat.lt_or_ge j m with h5 | h5
        · exact h3 j h5
        · obtain rfl : j = m := by omega
          have hj0 : 0 < j := by
            rcases Nat.eq_zero_or_pos j with rfl | h
            · exact absurd (keeps_lt_one d 0 (by omega)) hk
            · exact h
          have e : d[j]! = d[j - 1]! := by
            rcases Classical.em (d[j]! = d[j - 1]!) with e | e
            · exact e
            · exact absurd (keeps_pos e) hk
          rw [e]; exact h3 _ (by omega)

/-- The ids of a list of ends. -/
def idsOf (L : List Int) : List Int := compactUpTo (Sort.sort ltInt L.toArray) (Sort.sort ltInt L.toArray).size
theorem sort_toList (L : List Int) : (Sort.sort ltInt L.toArray).toList = L.mergeSort (fun x y => decide (x ≤ y)) := sortInt L
theorem sort_size (L : List Int) : (Sort.sort ltInt L.toArray).size = L.length := by
  rw [← Array.length_toList, sort_toList, List.length_mergeSort]
theorem ids_facts (L : List Int) : (idsOf L).length ≤ L.length ∧ Asc (idsOf L).length (fun i => (idsOf L).getD i 0) ∧ (∀ x ∈ L, ∃ i, i < (idsOf L).length ∧ (idsOf L).getD i 0 = x) ∧ (∀ i, i < (idsOf L).length → (idsOf L).getD i 0 ∈ L) := by
  have hs := sort_size L
  have hl := sort_toList L
  have hsorted : (L.mergeSort (fun x y => decide (x ≤ y))).Pairwise (fun x y => decide (x ≤ y) = true) := by
    apply List.pairwise_mergeSort
    · intro a b c h1 h2; simp at *; omega
    · intro a b; simp; omega
  have hget : ∀ j, (h : j < L.length) → (Sort.sort ltInt L.toArray)[j]! = (L.mergeSort (fun x y => decide (x ≤ y)))[j]'(by rw [List.length_mergeSort]; exact h) := by
    intro j h
    rw [getElem!_pos _ _ (by omega), ← Array.getElem_toList]
    simp only [hl]
  have hasc : ∀ i j, i ≤ j → j < (Sort.sort ltInt L.toArray).size → (Sort.sort ltInt L.toArray)[i]! ≤ (Sort.sort ltInt L.toArray)[j]! := by
    intro i j hij hj
    rcases Nat.lt_or_ge i j with h1 | h1
    · rw [hget i (by omega), hget j (by omega)]
      have := (List.pairwise_iff_getElem.1 hsorted) i j (by rw [List.length_mergeSort]; omega) (by rw [List.length_mergeSort]; omega) h1
      simpa using this
    · obtain rfl : i = j := by omega
      exact Int.le_refl _
  obtain ⟨h1, h2, h3, h4⟩ := compact_asc _ _ hasc
  have hmem : ∀ x, x ∈ idsOf L ↔ x ∈ L := by
    intro x
    constructor
    · intro hx
      obtain ⟨j, hj, e⟩ := h2 x hx
      rw [hget j (by omega)] at e
      rw [← e]
      exact (List.mergeSort_perm _ _).mem_iff.1 (List.getElem_mem _)
    · intro hx
      have hx' := (List.mergeSort_perm L (fun x y => decide (x ≤ y))).mem_iff.2 hx
      obtain ⟨j, hj, e⟩ := List.mem_iff_getElem.1 hx'
      rw [List.length_mergeSort] at hj
      have := h3 j (by omega)
      rw [hget j hj, e] at this
      exact this
  refine ⟨by unfold idsOf; omega, ?_, ?_, ?_⟩
  · intro i j hij hj
    have := (List.pairwise_iff_getElem.1 h1) i j (show i < (idsOf L).length by omega) hj hij
    simp only [List.getD_eq_getElem?_getD]
    rw [List.getElem?_eq_getElem (show i < (idsOf L).length by omega), List.getElem?_eq_getElem hj]
    exact this
  · intro x hx
    obtain ⟨i, hi, e⟩ := List.mem_iff_getElem.1 ((hmem x).2 hx)
    exact ⟨i, hi, by simp [List.getD_eq_getElem?_getD, List.getElem?_eq_getElem hi, e]⟩
  · intro i hi
    simp only [List.getD_eq_getElem?_getD]
    rw [List.getElem?_eq_getElem hi]
    exact (hmem _).1 (List.getElem_mem hi)

/-- The world behind a sort | a compaction of a row that lies from B on. -/
theorem below_put {α : Type} [Inhabited α] (enc : α → Value) (w : World) (n B blk off : Nat) (d : Array α) (hB : B ≤ blk) : Below B w (putRow enc (Sort.ahead w n) blk off d) :=
  ⟨rfl, rfl, rfl, by simp, fun k hk => by simp only [putRow, mapBlock, Array.getElem?_modify, Sort.heap_ahead]; rw [if_neg (by omega)]⟩
theorem below_grow (w : World) (os : Array Obj) (B : Nat) (hB : B ≤ w.heap.size) : Below B w (grow w os) := ⟨rfl, rfl, rfl, by simp, fun k hk => heap_grow_old w os (by omega)⟩

theorem zero32 : ∀ w, (zeroValue 21).run Tryf.prog w = .ok (enc32 0) w := fun w => by
  obtain ⟨i1, hi1, hz10, _, _⟩ := info_parts info21
  simp [zeroValue, typeInfo, hi1, hz10, enc32]
/-- Sort, then Compact, then Clip: what Builder.Graph does to the ids. -/
theorem compact_i32 (blk off cap : Nat) (d : Array Int) (w : World) (hH : Holds enc32 w blk off d) (hsz : d.size ≤ 9223372036854775807) (hcap : d.size ≤ cap) :
    Calls Tryf.prog 26 #[.slice (some ⟨blk, off, none⟩) d.size cap] w fun e w' => e = .returned (.slice (some ⟨blk, off, none⟩) (compactUpTo d d.size).length cap) ∧ ∃ q, w' = putRow enc32 (Sort.ahead w q) blk off (compactUpTo d d.size ++ List.replicate (d.size - (compactUpTo d d.size).length) 0).toArray :=
  Tryf.slices_Compact enc32 (fun _ => rfl) (Go.Proofs.EqlAt.intD _ _ .i32) (Go.Proofs.NeqAt.intD _ _ .i32) 0 zero32 blk off cap d w hH hsz hcap
/-- The world behind both. -/
theorem ids_world {w0 w : World} {H blk n q : Nat} {L : List Int} {os : Array Obj} (hb : Below H w0 w) (hH : H ≤ blk) (hlt : blk < w.heap.size) (hL : Holds enc32 w blk 0 L.toArray) (w1 w2 : World)
    (h1 : w1 = grow (putRow enc32 (Sort.ahead w n) blk 0 (Sort.sort ltInt L.toArray)) os)
    (h2 : w2 = putRow enc32 (Sort.ahead w1 q) blk 0 (idsOf L ++ List.replicate ((Sort.sort ltInt L.toArray).size - (idsOf L).length) 0).toArray) :
    Below H w0 w2 ∧ (∀ i, i < (idsOf L).length → w2.cell? ⟨blk, i, none⟩ = some (.int .i32 ((idsOf L).getD i 0))) ∧ blk < w2.heap.size ∧ Holds enc32 w1 blk 0 (Sort.sort ltInt L.toArray) := by
  have hs := sort_size L
  have hle := (ids_facts L).1
  have hH1 : Holds enc32 w1 blk 0 (Sort.sort ltInt L.toArray) := by
    rw [h1]
    exact holds_grow _ _ _ _ _ _ (by simpa using hlt) (holds_putRow _ _ _ _ L.toArray _ (holds_ahead _ _ _ _ _ _ hL) (by simp [hs]))
  have hH2 := holds_putRow enc32 (Sort.ahead w1 q) blk 0 (Sort.sort ltInt L.toArray) (idsOf L ++ List.replicate ((Sort.sort ltInt L.toArray).size - (idsOf L).length) 0).toArray (holds_ahead _ _ _ _ _ _ hH1) (by simp; omega)
  rw [← h2] at hH2
  refine ⟨?_, ?_, ?_, hH1⟩
  · rw [h2, h1]
    refine (((hb.trans (below_put _ _ _ _ _ _ _ hH)).trans (below_grow _ _ _ ?_))).trans (below_put _ _ _ _ _ _ _ hH)
    simp; omega
  · intro i hi
    have := (hH2 i (by simp; omega)).1
    rw [Nat.zero_add] at this
    rw [this]
    simp only [enc32, List.getD_eq_getElem?_getD]
    rw [getElem!_pos _ _ (by simp; omega)]
    simp [List.getElem_append_left hi, List.getElem?_eq_getElem hi]
  · rw [h2, h1]; simp; omega
end Go.Proofs.Qxb6616522aFmt
