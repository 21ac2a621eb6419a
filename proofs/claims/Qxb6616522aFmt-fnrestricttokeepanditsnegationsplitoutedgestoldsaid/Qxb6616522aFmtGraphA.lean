/-
  Builder.Graph: the plain parts.
-/
import Derived.Test.Qxb6616522aFmtIds
import Derived.Test.Qxb6616522aFmtInv
import Derived.Deep.RegionLaw
import Derived.Laws.MakeOwn
namespace Go.Proofs.Qxb6616522aFmt
open Go.RowKit Go.Sort Go.Lib

theorem add_zero_off (g j : Nat) : (⟨g, 0, none⟩ : Addr).add j = ⟨g, j, none⟩ := by unfold Addr.add; split <;> simp_all
/-- A row as the walk meets it. -/
theorem row_view {w : World} {B e N : Nat} {v : Value} {xs : List Value} (h : w.ownsRow B e 1 v N xs) (hnil : N = 0 → v = .slice none 0 0) :
    ∃ o c g, v = .slice o N c ∧ (0 < N → o = some ⟨g, 0, none⟩ ∧ g < w.heap.size) ∧ (N = 0 → o = none ∧ c = 0) ∧ ∀ k, k < N → w.cell? ⟨g, k, none⟩ = xs[k]? := by
  rcases Nat.eq_zero_or_pos N with h0 | h0
  · subst h0
    exact ⟨none, 0, 0, hnil rfl, fun h => absurd h (by omega), fun _ => ⟨rfl, rfl⟩, fun k hk => absurd hk (by omega)⟩
  · obtain ⟨g, c, rfl, _, hlt⟩ := h.form h0
    refine ⟨_, c, g, rfl, fun _ => ⟨rfl, hlt⟩, fun h => by omega, fun k hk => ?_⟩
    exact h.cellAt k (by omega)

theorem below_setCells {B H : Nat} (hB : B ≤ H) : ∀ (vs : List Value) (o : Nat) {a w : World}, Below B a w → Below B a (w.setCells H o vs)
  | [], _, _, _, h => h
  | v :: r, o, _, _, h => below_setCells hB r (o + 1) (h.setCell (p := ⟨H, o, none⟩) hB v)
/-- The two appends into the room of the ids' row. -/
theorem two_puts {w wa : World} {H N : Nat} {n1 n2 : List Value} (U V : Nat → Int) (hb : Below H w wa) (hr : wa.rowIs H 21 (2 * N) (fun _ => .int .i32 0)) (e1 : n1 = (List.range N).map fun k => Value.int .i32 (U k)) (e2 : n2 = (List.range N).map fun k => Value.int .i32 (V k)) :
    (∀ x : Addr, x.block ≠ H → (wa.drew.setCells H 0 n1).cell? x = wa.cell? x) ∧
    (∀ j, j < n2.length → ((wa.drew.setCells H 0 n1).cell? ⟨H, N + j, none⟩).isSome = true ∧ (wa.drew.setCells H 0 n1).frozen? ⟨H, N + j, none⟩ = false) ∧
    Below H w ((wa.drew.setCells H 0 n1).setCells H N n2) ∧
    Holds enc32 ((wa.drew.setCells H 0 n1).setCells H N n2) H 0 ((List.range N).map U ++ (List.range N).map V).toArray ∧ H < ((wa.drew.setCells H 0 n1).setCells H N n2).heap.size := by
  have l1 : n1.length = N := by rw [e1]; simp
  have l2 : n2.length = N := by rw [e2]; simp
  have hs : ∀ j, j < n2.length → ((wa.drew.setCells H 0 n1).cell? ⟨H, N + j, none⟩).isSome = true ∧ (wa.drew.setCells H 0 n1).frozen? ⟨H, N + j, none⟩ = false := fun j hj => by
    rw [World.cell?_setCells_out _ _ _ _ _ (fun _ _ => .inr (by show 0 + n1.length ≤ N + j; omega)), World.frozen?_setCells]
    refine ⟨?_, hr.frozen _⟩
    rw [show wa.drew.cell? ⟨H, N + j, none⟩ = wa.cell? ⟨H, N + j, none⟩ from rfl, hr.cell (by omega)]; rfl
  have hB : Below H w ((wa.drew.setCells H 0 n1).setCells H N n2) := below_setCells (Nat.le_refl _) _ _ (below_setCells (Nat.le_refl _) _ _ hb.drew)
  refine ⟨fun x hx => World.cell?_setCells_out _ _ _ _ _ (fun h => absurd h hx), hs, hB, ?_, ?_⟩
  · intro j hj
    simp at hj
    refine ⟨?_, by rw [World.frozen?_setCells, World.frozen?_setCells]; exact hr.frozen _⟩
    rw [Nat.zero_add]
    rcases Nat.lt_or_ge j N with h | h
    · rw [World.cell?_setCells_out _ _ _ _ _ (fun _ _ => .inl (by show j < N; exact h))]
      have := World.cell?_setCells_in H n1 0 wa.drew (fun i hi => by rw [show wa.drew.cell? ⟨H, 0 + i, none⟩ = wa.cell? ⟨H, 0 + i, none⟩ from rfl, hr.cell (by omega)]; rfl) j (by omega)
      rw [Nat.zero_add] at this
      rw [this]
      simp [e1, enc32, h, List.getElem?_append]
    · obtain ⟨i, rfl⟩ : ∃ i, j = N + i := ⟨j - N, by omega⟩
      rw [World.cell?_setCells_in H n2 N _ (fun i hi => (hs i hi).1) i (by omega)]
      have hi : i < N := by omega
      simp [e2, enc32, hi]
  · exact Nat.lt_of_lt_of_le hr.lt (by
      have : Below H wa ((wa.drew.setCells H 0 n1).setCells H N n2) := below_setCells (Nat.le_refl _) _ _ (below_setCells (Nat.le_refl _) _ _ (Below.refl H wa).drew)
      exact this.size)

/-- WHAT Builder.Graph LEAVES: the graph's block bg, its rows, and what they hold. -/
structure Built (w : World) (n N M bg bi bs bt bw : Nat) (I U V : Nat → Int) (W F T : Nat → Nat) (A : List Arc) : Prop where
  g0 : w.cell? ⟨bg, 0, none⟩ = some (.slice (some ⟨bi, 0, none⟩) n n)
  g1 : w.cell? ⟨bg, 1, none⟩ = some (.slice (some ⟨bs, 0, none⟩) (n + 1) (n + 1))
  g2 : w.cell? ⟨bg, 2, none⟩ = some (.slice (some ⟨bt, 0, none⟩) M M)
  g3 : w.cell? ⟨bg, 3, none⟩ = some (.slice (some ⟨bw, 0, none⟩) M M)
  g4 : w.cell? ⟨bg, 4, none⟩ = some (.int .i64 N)
  lbg : bg < w.heap.size
  lbi : bi < w.heap.size
  lbs : bs < w.heap.size
  lbt : bt < w.heap.size
  lbw : bw < w.heap.size
  ids : ∀ i, i < n → w.cell? ⟨bi, i, none⟩ = some (.int .i32 (I i))
  start : ∀ i, i ≤ n → w.cell? ⟨bs, i, none⟩ = some (.int .i64 (st A i))
  tgt : ∀ s c, s < n → (h : c < (run A s).length) → w.cell? ⟨bt, st A s + c, none⟩ = some (.int .i32 ((run A s)[c].2.1))
  wgt : ∀ s c, s < n → (h : c < (run A s).length) → w.cell? ⟨bw, st A s + c, none⟩ = some (.float .f64 ((run A s)[c].2.2))
  asc : Asc n I
  sF : ∀ k, k < N → F k < n ∧ U k = I (F k)
  sT : ∀ k, k < N → T k < n ∧ V k = I (T k)
  cov : ∀ i, i < n → ∃ k, k < N ∧ (F k = i ∨ T k = i)
  hn : n ≤ 2 * N
  hM : M = A.length

theorem heap_setCell_cell (w : World) {b i b' : Nat} (v : Value) (h : b' ≠ b) (i' : Nat) : (w.setCell ⟨b, i, none⟩ v).cell? ⟨b', i', none⟩ = w.cell? ⟨b', i', none⟩ := World.cell?_of_block (heap_setCell_other _ _ _ _ h)
theorem step_fill (i j : Nat) (F : Nat → Nat) : (if i = j then Value.int .i32 (F j : Int) else .int .i32 (if i < j then (F i : Int) else 0)) = .int .i32 (if i < j + 1 then (F i : Int) else 0) := by
  by_cases h : i = j
  · subst h; simp
  · by_cases h2 : i < j
    · rw [if_neg h, if_pos h2, if_pos (by omega)]
    · rw [if_neg h, if_neg h2, if_neg (by omega)]
/-- start ahead of its sums: place i + 1 counts the arcs that leave i. -/
def cntV (L : List Arc) (i : Nat) : Value := .int .i64 (if i = 0 then 0 else ((run L (i - 1)).length : Int))
theorem cnt_step {w1 : World} {bs m a : Nat} {x : Nat × Nat} {L : List Arc} (hc : w1.rowIs bs 3 m (cntV L)) :
    (w1.setCell ⟨bs, a + 1, none⟩ (.int .i64 (((run L a).length : Int) + 1))).rowIs bs 3 m (cntV (L ++ [(a, x)])) := by
  refine (hc.set _ _).congr ?_
  intro i _
  unfold cntV
  rw [run_append, run_one]
  by_cases h1 : i = a + 1
  · subst h1; simp
  · by_cases h0 : i = 0
    · simp [h0]
    · have h2 : ¬ a = i - 1 := by omega
      simp [h1, h0, h2]
theorem cntV_succ (L : List Arc) (a : Nat) : cntV L (a + 1) = .int .i64 ((run L a).length : Int) := by unfold cntV; simp
theorem run_le (L : List Arc) (a : Nat) : (run L a).length ≤ L.length := List.length_filter_le _ _
theorem arcs_dir (F T W : Nat → Nat) (j : Nat) : arcs true (fun _ => true) F T W (j + 1) = arcs true (fun _ => true) F T W j ++ [(F j, T j, W j)] := by simp [arcs, ones]
theorem arcs_same (F T W : Nat → Nat) (j : Nat) (h : F j = T j) : arcs false (fun _ => true) F T W (j + 1) = arcs false (fun _ => true) F T W j ++ [(F j, T j, W j)] := by simp [arcs, ones, h]
theorem arcs_both (F T W : Nat → Nat) (j : Nat) (h : ¬ F j = T j) : arcs false (fun _ => true) F T W (j + 1) = (arcs false (fun _ => true) F T W j ++ [(F j, T j, W j)]) ++ [(T j, F j, W j)] := by simp [arcs, ones, h]
/-- start while it is summed. -/
def sumV (A : List Arc) (j i : Nat) : Value := .int .i64 (if i ≤ j then (st A i : Int) else ((run A (i - 1)).length : Int))
theorem sumV_zero (A : List Arc) (i : Nat) : cntV A i = sumV A 0 i := by
  unfold cntV sumV
  by_cases h : i = 0
  · subst h; simp [st_zero]
  · rw [if_neg h, if_neg (by omega)]
theorem sum_step {w1 : World} {bs m j : Nat} {A : List Arc} (hc : w1.rowIs bs 3 m (sumV A j)) :
    (w1.setCell ⟨bs, j + 1, none⟩ (.int .i64 (((run A j).length : Int) + (st A j : Int)))).rowIs bs 3 m (sumV A (j + 1)) := by
  refine (hc.set _ _).congr ?_
  intro i _
  unfold sumV
  by_cases h1 : i = j + 1
  · subst h1; simp [st_succ]; omega
  · by_cases h2 : i ≤ j
    · rw [if_neg h1, if_pos h2, if_pos (by omega)]
    · rw [if_neg h1, if_neg h2, if_neg (by omega)]
theorem made3 {wG : World} {G0 : Nat} (t1 t2 M : Nat) (z1 z2 : Value) (o : Array Value) (hG0 : wG.heap.size = G0) :
    Below G0 wG (((wG.alloc (.cells (madeCells #[z1] M) t1)).alloc (.cells (madeCells #[z2] M) t2)).alloc (.cells o 46)).drew ∧
    (((wG.alloc (.cells (madeCells #[z1] M) t1)).alloc (.cells (madeCells #[z2] M) t2)).alloc (.cells o 46)).drew.rowIs G0 t1 M (fun _ => z1) ∧
    (((wG.alloc (.cells (madeCells #[z1] M) t1)).alloc (.cells (madeCells #[z2] M) t2)).alloc (.cells o 46)).drew.rowIs (G0 + 1) t2 M (fun _ => z2) ∧
    (((wG.alloc (.cells (madeCells #[z1] M) t1)).alloc (.cells (madeCells #[z2] M) t2)).alloc (.cells o 46)).drew.heap[G0 + 2]? = some (.cells o 46 (0, 0)) := by
  subst hG0
  refine ⟨((((Below.refl _ _).alloc (Nat.le_refl _) _).alloc (by simp) _).alloc (by simp; omega) _).drew, ?_, ?_, ?_⟩
  · exact (((World.rowIs_made wG z1 M t1).alloc _).alloc _).drew
  · have h2 := World.rowIs_made (wG.alloc (.cells (madeCells #[z1] M) t1)) z2 M t2
    rw [show (wG.alloc (.cells (madeCells #[z1] M) t1)).heap.size = wG.heap.size + 1 by simp] at h2
    exact (h2.alloc _).drew
  · show (((wG.alloc (.cells (madeCells #[z1] M) t1)).alloc (.cells (madeCells #[z2] M) t2)).heap.push (.cells o 46))[wG.heap.size + 2]? = _
    rw [Array.getElem?_push, if_pos (by simp)]
/-- The cursors' row as Clone leaves it. -/
theorem next_view {wG : World} {E0 n : Nat} {v' : Value} {A : List Arc} (h : wG.ownsRow E0 3 1 v' n ((List.range n).map fun i => Value.int .i64 (st A i))) :
    ∃ (gn cap : Nat) (X : Nat → Value), 0 < n → v' = .slice (some ⟨gn, 0, none⟩) n cap ∧ E0 ≤ gn ∧ gn < wG.heap.size ∧ n ≤ cap ∧ wG.rowIs gn 3 cap (fun i => if i < n then .int .i64 ((st A i : Int) + ((run [] i).length : Int)) else X i) := by
  rcases h.2 with ⟨_, h0⟩ | ⟨g, cap, cur, hv, hg, hb, h1, _, h3, h4⟩
  · exact ⟨0, 0, fun _ => .bool false, fun h => by omega⟩
  · refine ⟨g, cap, fun i => cur[i]?.getD (.bool false), fun _ => ⟨hv, hg, lt_of_blk hb, h1, cur, hb, by omega, fun i hi => ?_⟩⟩
    by_cases hin : i < n
    · have : (cur.toList.take (n * 1))[i]? = ((List.range n).map fun i => Value.int .i64 (st A i))[i]? := by rw [h4]
      rw [List.getElem?_take_of_lt (by omega)] at this
      simp [hin] at this
      simp [hin, run_nil, this]
    · simp [hin]
      rw [Array.getElem?_eq_getElem (by omega)]; rfl
theorem Inv4.drew {wE : World} {E0 bg gn cap n M bt bw : Nat} {G : Array Value} {X : Nat → Value} {A L : List Arc} {wr : World} (h : Inv4 wE E0 bg gn cap n M bt bw G X A L wr) : Inv4 wE E0 bg gn cap n M bt bw G X A L wr.drew := by
  obtain ⟨h1, h2, h3, fT, fW, h4, h5, h6⟩ := h
  exact ⟨h1.drew, h2, h3.drew, fT, fW, h4.drew, h5.drew, h6⟩
theorem Inv4.drewN {wE : World} {E0 bg gn cap n M bt bw : Nat} {G : Array Value} {X : Nat → Value} {A L : List Arc} {wr : World} (h : Inv4 wE E0 bg gn cap n M bt bw G X A L wr) (q : Nat) : Inv4 wE E0 bg gn cap n M bt bw G X A L (wr.drewN q) := by
  obtain ⟨h1, h2, h3, fT, fW, h4, h5, h6⟩ := h
  exact ⟨below_drewN h1 q, h2, h3.of_block rfl, fT, fW, h4.of_block rfl, h5.of_block rfl, h6⟩
theorem pick_places {N n : Nat} {U I : Nat → Int} (h : ∀ k, k < N → ∃ i, i < n ∧ I i = U k) : ∃ F : Nat → Nat, ∀ k, k < N → F k < n ∧ U k = I (F k) := by
  refine ⟨fun k => if hk : k < N then Classical.choose (h k hk) else 0, fun k hk => ?_⟩
  have := Classical.choose_spec (h k hk)
  simp only [hk, dif_pos]
  exact ⟨this.1, this.2.symm⟩
theorem asc_inj {n : Nat} {I : Nat → Int} (h : Asc n I) {i j : Nat} (hi : i < n) (hj : j < n) (e : I i = I j) : i = j := by
  rcases Nat.lt_trichotomy i j with h1 | h1 | h1
  · have := h i j h1 hj; omega
  · exact h1
  · have := h j i h1 hi; omega
/-- What the ids say of the edges' ends. -/
theorem places {N n : Nat} {U V I : Nat → Int} {L : List Int} (hL : L = (List.range N).map U ++ (List.range N).map V) (hn : n = (idsOf L).length) (hI : I = fun i => (idsOf L).getD i 0) :
    Asc n I ∧ ∃ F T : Nat → Nat, (∀ k, k < N → F k < n ∧ U k = I (F k)) ∧ (∀ k, k < N → T k < n ∧ V k = I (T k)) ∧ (∀ i, i < n → ∃ k, k < N ∧ (F k = i ∨ T k = i)) := by
  obtain ⟨_, h2, h3, h4⟩ := ids_facts L
  have hA : Asc n I := by rw [hn, hI]; exact h2
  obtain ⟨F, hF⟩ := pick_places (N := N) (n := n) (U := U) (I := I) (fun k hk => by rw [hn, hI]; exact h3 (U k) (by rw [hL]; simp; exact .inl ⟨k, hk, rfl⟩))
  obtain ⟨T, hT⟩ := pick_places (N := N) (n := n) (U := V) (I := I) (fun k hk => by rw [hn, hI]; exact h3 (V k) (by rw [hL]; simp; exact .inr ⟨k, hk, rfl⟩))
  refine ⟨hA, F, T, hF, hT, fun i hi => ?_⟩
  have hm : I i ∈ L := by rw [hI]; exact h4 i (by rw [← hn]; exact hi)
  rw [hL, List.mem_append, List.mem_map, List.mem_map] at hm
  rcases hm with ⟨k, hk, e⟩ | ⟨k, hk, e⟩
  · have hk := List.mem_range.1 hk
    exact ⟨k, hk, .inl (asc_inj hA (hF k hk).1 hi (by rw [← (hF k hk).2, e]))⟩
  · have hk := List.mem_range.1 hk
    exact ⟨k, hk, .inr (asc_inj hA (hT k hk).1 hi (by rw [← (hT k hk).2, e]))⟩

end Go.Proofs.Qxb6616522aFmt
