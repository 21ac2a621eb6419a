/-
  THE PLAIN LAW OF THE GRAPH: arcs in the order in which they are placed, their runs by source, the offsets.
-/
namespace Go.Proofs.Qxb6616522aFmt

/-- An arc: its source, its target, its weight's bits. -/
abbrev Arc := Nat × Nat × Nat
/-- The arcs that leave s, in order. -/
def run (L : List Arc) (s : Nat) : List Arc := L.filter fun a => a.1 == s
/-- How many arcs leave a vertex below i. -/
def st (L : List Arc) (i : Nat) : Nat := L.countP fun a => decide (a.1 < i)

theorem st_zero (L : List Arc) : st L 0 = 0 := by
  unfold st; rw [List.countP_eq_zero]; intro a _; simp
theorem st_nil (i : Nat) : st [] i = 0 := rfl
theorem run_nil (i : Nat) : run [] i = [] := rfl
theorem st_cons (a : Arc) (L : List Arc) (i : Nat) : st (a :: L) i = st L i + if a.1 < i then 1 else 0 := by
  unfold st; rw [List.countP_cons]; simp
theorem run_cons (a : Arc) (L : List Arc) (i : Nat) : run (a :: L) i = if a.1 = i then a :: run L i else run L i := by
  unfold run; rw [List.filter_cons]; simp
theorem st_succ (L : List Arc) (i : Nat) : st L (i + 1) = st L i + (run L i).length := by
  induction L with
  | nil => rfl
  | cons a L ih =>
    rw [st_cons, st_cons, run_cons, ih]
    by_cases h1 : a.1 = i
    · rw [if_pos h1, if_pos (by omega), if_neg (by omega)]; simp; omega
    · rw [if_neg h1]
      by_cases h2 : a.1 < i
      · rw [if_pos h2, if_pos (by omega)]; omega
      · rw [if_neg h2, if_neg (by omega)]; omega
theorem st_mono (L : List Arc) {i j : Nat} (h : i ≤ j) : st L i ≤ st L j := by
  induction L with
  | nil => exact Nat.le_refl _
  | cons a L ih =>
    rw [st_cons, st_cons]
    by_cases h1 : a.1 < i
    · rw [if_pos h1, if_pos (by omega)]; omega
    · rw [if_neg h1]; omega
theorem st_all (L : List Arc) (n : Nat) (h : ∀ a ∈ L, a.1 < n) : st L n = L.length := by
  unfold st; rw [List.countP_eq_length]; intro a ha; simpa using h a ha
theorem st_le_length (L : List Arc) (i : Nat) : st L i ≤ L.length := List.countP_le_length
theorem run_append (L K : List Arc) (i : Nat) : run (L ++ K) i = run L i ++ run K i := by unfold run; rw [List.filter_append]
theorem run_one (a : Arc) (i : Nat) : run [a] i = if a.1 = i then [a] else [] := by rw [run_cons, run_nil]
/-- A place within a run lies below the next run. -/
theorem place_lt (L : List Arc) (s c n : Nat) (hs : s < n) (hc : c < (run L s).length) : st L s + c < st L n := by
  have h1 := st_succ L s
  have h2 := st_mono L (i := s + 1) (j := n) (by omega)
  omega
/-- Two places are one only where source and count are. -/
theorem place_inj (L : List Arc) {s c s' c' : Nat} (hc : c < (run L s).length) (hc' : c' < (run L s').length) (h : st L s + c = st L s' + c') : s = s' ∧ c = c' := by
  rcases Nat.lt_trichotomy s s' with h1 | h1 | h1
  · have := place_lt L s c s' h1 hc; omega
  · subst h1; exact ⟨rfl, by omega⟩
  · have := place_lt L s' c' s h1 hc'; omega

section
variable (directed : Bool) (kp : Nat → Bool) (F T W : Nat → Nat)
/-- The arcs of edge k, of those that leave a kept vertex. -/
def ones (k : Nat) : List Arc :=
  (if kp (F k) then [(F k, T k, W k)] else []) ++ (if (!directed && (F k != T k)) && kp (T k) then [(T k, F k, W k)] else [])
/-- The arcs of the first k edges. -/
def arcs : Nat → List Arc
  | 0 => []
  | k + 1 => arcs k ++ ones directed kp F T W k
theorem arcs_prefix {k N : Nat} (h : k ≤ N) : ∃ K, arcs directed kp F T W N = arcs directed kp F T W k ++ K := by
  induction N with
  | zero => obtain rfl : k = 0 := by omega
            exact ⟨[], rfl⟩
  | succ N ih =>
    rcases Nat.lt_or_ge N k with h1 | h1
    · obtain rfl : k = N + 1 := by omega
      exact ⟨[], by simp⟩
    · obtain ⟨K, hK⟩ := ih h1
      exact ⟨K ++ ones directed kp F T W N, by rw [arcs, hK, List.append_assoc]⟩
theorem arcs_src {n N : Nat} (hF : ∀ k, k < N → F k < n) (hT : ∀ k, k < N → T k < n) : ∀ a ∈ arcs directed kp F T W N, a.1 < n ∧ a.2.1 < n := by
  induction N with
  | zero => intro a ha; cases ha
  | succ N ih =>
    intro a ha
    rw [arcs, List.mem_append] at ha
    rcases ha with ha | ha
    · exact ih (fun k hk => hF k (by omega)) (fun k hk => hT k (by omega)) a ha
    · unfold ones at ha
      rw [List.mem_append] at ha
      rcases ha with ha | ha
      · split at ha
        · rw [List.mem_singleton] at ha; subst ha; exact ⟨hF N (by omega), hT N (by omega)⟩
        · cases ha
      · split at ha
        · rw [List.mem_singleton] at ha; subst ha; exact ⟨hT N (by omega), hF N (by omega)⟩
        · cases ha
theorem arcs_length (N : Nat) : (arcs directed kp F T W N).length ≤ 2 * N := by
  induction N with
  | zero => exact Nat.le_refl _
  | succ N ih =>
    rw [arcs, List.length_append]
    have : (ones directed kp F T W N).length ≤ 2 := by unfold ones; rw [List.length_append]; split <;> split <;> simp
    omega
end
end Go.Proofs.Qxb6616522aFmt
