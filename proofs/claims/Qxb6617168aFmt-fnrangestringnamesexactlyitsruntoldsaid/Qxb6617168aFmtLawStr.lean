/-
  THE WALK OF 'FnRangeStringNamesExactlyItsRun'.
-/
import Derived.Test.Qxb6617168aFmtPlain
import Derived.Test.Qxb6617168aFmtRead
import Derived.Test.Qxb6617168aFmtMatch
import Derived.Test.Qxb6617168aFmtString
namespace Go.Proofs.Qxb6617168aFmt.str
open Go.RowKit

theorem size_list (L : List UInt8) : (⟨L.toArray⟩ : ByteArray).size = L.length := rfl

/-- b1ReadNat at a numeral within a text. -/
theorem read_at (pre post : List UInt8) (u : Nat) (hu : u ≤ 9223372036854775807) (hpost : ∀ c r, post = c :: r → ¬ (48 ≤ c.toNat ∧ c.toNat ≤ 57)) (hlen : (pre ++ Lib.decDigits u ++ post).length ≤ maxLen) (w : World) :
    Calls Tryf.prog 16 #[.string ⟨(pre ++ Lib.decDigits u ++ post).toArray⟩, .int .i64 pre.length] w fun e w' => e = .returned (.tuple #[.int .i64 u, .int .i64 ↑(pre.length + (Lib.decDigits u).length), .bool true]) ∧ w' = w := by
  obtain ⟨f1, f2, f3, f4⟩ := dec_facts u
  have hD : 1 ≤ (Lib.decDigits u).length := List.length_pos_iff.2 f4
  have hsz := size_list (pre ++ Lib.decDigits u ++ post)
  have hL : (pre ++ Lib.decDigits u ++ post).length = pre.length + (Lib.decDigits u).length + post.length := by simp; omega
  have hend : ∀ h : pre.length + (Lib.decDigits u).length < (⟨(pre ++ Lib.decDigits u ++ post).toArray⟩ : ByteArray).size, ¬ (48 ≤ (⟨(pre ++ Lib.decDigits u ++ post).toArray⟩ : ByteArray)[pre.length + (Lib.decDigits u).length].toNat ∧ (⟨(pre ++ Lib.decDigits u ++ post).toArray⟩ : ByteArray)[pre.length + (Lib.decDigits u).length].toNat ≤ 57) := by
    intro h
    have h' : pre.length + (Lib.decDigits u).length < (pre ++ Lib.decDigits u ++ post).length := by rw [← hsz]; exact h
    rw [byte_at _ _ h h']
    cases post with
    | nil => simp at h'
    | cons c r =>
      rw [List.getElem_append_right (by simp)]
      simpa using hpost c r rfl
  have hat : ∀ k (hk : k < (Lib.decDigits u).length) (h : pre.length + k < (⟨(pre ++ Lib.decDigits u ++ post).toArray⟩ : ByteArray).size), (⟨(pre ++ Lib.decDigits u ++ post).toArray⟩ : ByteArray)[pre.length + k] = (Lib.decDigits u)[k] := by
    intro k hk h
    have h' : pre.length + k < (pre ++ Lib.decDigits u ++ post).length := by rw [← hsz]; exact h
    rw [byte_at _ _ h h', List.getElem_append_left (by simp; omega), List.getElem_append_right (by omega)]
    simp
  by_cases h0 : u = 0
  · subst h0
    have e1 : Lib.decDigits 0 = [48] := by rw [Lib.decDigits_one (by omega)]; rfl
    have hl1 : (Lib.decDigits 0).length = 1 := by rw [e1]; rfl
    refine (read_zero _ pre.length (by rw [hsz]; exact hlen) (by rw [hsz]; omega) ?_ w ?_).mono ?_
    · have := hat 0 (by omega) (by rw [hsz]; omega)
      simp only [Nat.add_zero] at this
      rw [this]
      simp [e1]
    · by_cases he : pre.length + 1 = (⟨(pre ++ Lib.decDigits 0 ++ post).toArray⟩ : ByteArray).size
      · exact .inl he
      · have hlt : pre.length + 1 < (⟨(pre ++ Lib.decDigits 0 ++ post).toArray⟩ : ByteArray).size := by rw [hsz] at he ⊢; omega
        refine .inr ⟨hlt, ?_⟩
        have := hend (by rw [hl1]; exact hlt)
        simp only [hl1] at this
        exact this
    · rintro e w' ⟨rfl, rfl⟩
      refine ⟨?_, rfl⟩
      rw [hl1]
      rfl
  · have hV : ∀ j, (Lib.decDigits u).length ≤ j - pre.length → val ((Lib.decDigits u).take (j - pre.length)) = u := by
      intro j hj; rw [List.take_of_length_le hj, f2]
    refine (read_num _ pre.length (Lib.decDigits u).length (fun j => val ((Lib.decDigits u).take (j - pre.length))) (by rw [hsz]; exact hlen) hD (by rw [hsz]; omega) (by simp [val]) ?_ ?_ ?_ w hend).mono ?_
    · intro j hj1 hj2 h
      obtain ⟨k, rfl⟩ : ∃ k, j = pre.length + k := ⟨j - pre.length, by omega⟩
      have hk : k < (Lib.decDigits u).length := by omega
      have hg := hat k hk h
      have hm := f1 _ (List.getElem_mem hk)
      have e1 : pre.length + k + 1 - pre.length = k + 1 := by omega
      have e2 : pre.length + k - pre.length = k := by omega
      show _ ∧ _ ∧ val ((Lib.decDigits u).take (pre.length + k + 1 - pre.length)) = val ((Lib.decDigits u).take (pre.length + k - pre.length)) * 10 + _
      rw [hg, e1, e2, val_take_succ _ _ hk]
      exact ⟨hm.1, hm.2, rfl⟩
    · intro j _ _
      have := val_take_le (Lib.decDigits u) (j - pre.length)
      show val ((Lib.decDigits u).take (j - pre.length)) ≤ _
      omega
    · intro h
      have := hat 0 (by omega) h
      simp only [Nat.add_zero] at this
      rw [this]
      refine f3 (by omega) _ ?_
      rw [List.head?_eq_getElem?, List.getElem?_eq_getElem (by omega)]
    · rintro e w' ⟨rfl, rfl⟩
      refine ⟨?_, rfl⟩
      rw [hV _ (by omega)]

/-- The text of one run reads back as that run. -/
theorem match_text (lo hi : Int) (h0 : 0 ≤ lo) (h1 : lo < hi) (h2 : hi ≤ 9223372036854775807) (bl bh : Nat) (w : World)
    (c0 : w.cell? ⟨bl, 0, none⟩ = some (.int .i64 lo)) (c1 : w.cell? ⟨bh, 0, none⟩ = some (.int .i64 hi)) :
    Calls Tryf.prog 8 #[.string ⟨(runText lo hi).toArray⟩, .slice (some ⟨bl, 0, none⟩) 1 1, .slice (some ⟨bh, 0, none⟩) 1 1] w fun e w' => e = .returned (.bool true) ∧ w' = w := by
  obtain ⟨u, rfl⟩ := Int.eq_ofNat_of_zero_le h0
  obtain ⟨v, hv⟩ := Int.eq_ofNat_of_zero_le (a := hi - 1) (by omega)
  obtain ⟨f1, f2, f3, f4⟩ := dec_facts u
  have hD : 1 ≤ (Lib.decDigits u).length := List.length_pos_iff.2 f4
  have hD2 : 1 ≤ (Lib.decDigits v).length := List.length_pos_iff.2 (dec_facts v).2.2.2
  have l1 : (Lib.decDigits u).length ≤ 21 := by have := Lib.itoa_length_le (u : Int) (by omega) (by omega); rw [Lib.itoa_nonneg] at this; exact this
  have l2 : (Lib.decDigits v).length ≤ 21 := by have := Lib.itoa_length_le (v : Int) (by omega) (by omega); rw [Lib.itoa_nonneg] at this; exact this
  by_cases hgt : (u : Int) < hi - 1
  · have ht : runText u hi = Lib.decDigits u ++ 45 :: Lib.decDigits v := by
      unfold runText; rw [if_pos hgt, hv, Lib.itoa_nonneg, Lib.itoa_nonneg]
    rw [ht]
    have hsz := size_list (Lib.decDigits u ++ 45 :: Lib.decDigits v)
    have hL : (Lib.decDigits u ++ 45 :: Lib.decDigits v).length = (Lib.decDigits u).length + 1 + (Lib.decDigits v).length := by simp; omega
    refine match_run _ ((Lib.decDigits u).length + 1 + (Lib.decDigits v).length) (Lib.decDigits u).length u hi bl bh w (by rw [hsz, hL]) (by omega) (by omega) h0 hgt h2 c0 c1 (by rw [hsz, hL]; omega) ?_ ?_ ?_
    · rw [byte_at _ _ (by rw [hsz, hL]; omega) (by rw [hL]; omega), List.getElem_append_right (by omega)]
      simp
    · intro w'
      have hr := read_at [] (45 :: Lib.decDigits v) u (by omega) (by intro c r h; simp at h; obtain ⟨rfl, _⟩ := h; decide) (by simp; unfold maxLen; omega) w'
      simpa using hr
    · intro w'
      have hr := read_at (Lib.decDigits u ++ [45]) [] v (by omega) (by intro c r h; simp at h) (by simp; unfold maxLen; omega) w'
      rw [hv]
      simpa using hr
  · have ht : runText u hi = Lib.decDigits u := by
      unfold runText; rw [if_neg hgt, Lib.itoa_nonneg]
    rw [ht]
    refine match_single _ (Lib.decDigits u).length u hi bl bh w (size_list _) hD (by omega) h0 h1 h2 (by omega) c0 c1 ?_
    intro w'
    have hr := read_at [] [] u (by omega) (by intro c r h; simp at h) (by simp; unfold maxLen; omega) w'
    simpa using hr

set_option maxHeartbeats 1000000 in
theorem walk (lo hi : Int) (h2 : hi ≤ 9223372036854775807) (w : World) (htab : Lib.TabIs Tryf.prog w tab .u64 Lib.pow10Tab) :
    Calls Tryf.prog 4 #[.int .i64 lo, .int .i64 hi] w fun e w' => e = .returned (.bool true) ∧ Below w.heap.size w w' := by
  have hT := Lib.tabBelow_of_tabIs htab
  clear htab
  by_cases h0 : lo < 0
  · go_enter Tryf.func4, Tryf.ntmps4
    go_wp2
    go_ret
    exact ⟨rfl, Below.refl _ _⟩
  · by_cases h1 : hi ≤ lo
    · go_enter Tryf.func4, Tryf.ntmps4
      go_wp2_with (first | (go_at_call 5; refine (contains.range_none _ _ (by omega) h1 _).mono ?_; rintro e w' ⟨rfl, c1, rfl⟩) | (go_at_call 7; refine (string_none _).mono ?_; rintro e w' ⟨rfl, hb⟩) | (go_at_call 8; refine (match_none _).mono ?_; rintro e w' ⟨rfl, rfl⟩))
      go_ret
      exact ⟨rfl, ((Below.refl _ w).alloc (Nat.le_refl _) _).trans (hb.mono (by simp))⟩
    · have HB : ∀ c1 : Array Value, Below w.heap.size w ((w.alloc (.cells c1 24)).alloc (.cells #[.int .i64 lo, .int .i64 hi] 34)) := fun c1 => ((Below.refl _ w).alloc (Nat.le_refl _) _).alloc (by simp) _
      go_enter Tryf.func4, Tryf.ntmps4
      go_wp2_with (go_at_call 5; refine (contains.range_one _ _ (by omega) (by omega) _).mono ?_; rintro e w' ⟨rfl, c1, rfl⟩)
      refine (string_one lo hi (by omega) (by omega) h2 (w.heap.size + 1) 0 _ (by simp) (by go_simp) (by go_simp) (hT.on (HB c1)).here).mono ?_
      rintro e w1 ⟨rfl, hb⟩
      have hb' : Below w.heap.size w w1 := (HB c1).trans (hb.mono (by simp; omega))
      clear hb HB hT
      have hs : w.heap.size ≤ w1.heap.size := hb'.size
      go_wp2_with (go_at_call 8; refine (match_text lo hi (by omega) (by omega) h2 _ _ _ (by go_simp) (by go_simp)).mono ?_; rintro e w' ⟨rfl, rfl⟩)
      go_ret
      exact ⟨rfl, (hb'.alloc hs _).alloc (by simp; omega) _⟩
end Go.Proofs.Qxb6617168aFmt.str
