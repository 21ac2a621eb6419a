/-
  THE PLAIN LAW: a decimal numeral's digits, read from the left, give the number.
-/
import Derived.Lib.ItoaNum
namespace Go.Proofs.Qxb6617168aFmt.str

def val (l : List UInt8) : Nat := l.foldl (fun a c => a * 10 + (c.toNat - 48)) 0

theorem foldl_ge (l : List UInt8) : ∀ a : Nat, a ≤ l.foldl (fun a c => a * 10 + (c.toNat - 48)) a := by
  induction l with
  | nil => intro a; exact Nat.le_refl _
  | cons c l ih => intro a; rw [List.foldl_cons]; exact Nat.le_trans (by omega) (ih _)
theorem val_append (a b : List UInt8) : val (a ++ b) = b.foldl (fun a c => a * 10 + (c.toNat - 48)) (val a) := by
  unfold val; rw [List.foldl_append]
theorem val_take_le (l : List UInt8) (k : Nat) : val (l.take k) ≤ val l := by
  conv => rhs; rw [← List.take_append_drop k l]
  rw [val_append]; exact foldl_ge _ _
theorem val_snoc (a : List UInt8) (c : UInt8) : val (a ++ [c]) = val a * 10 + (c.toNat - 48) := by
  rw [val_append]; rfl
theorem val_take_succ (l : List UInt8) (k : Nat) (h : k < l.length) : val (l.take (k + 1)) = val (l.take k) * 10 + (l[k].toNat - 48) := by
  rw [List.take_succ_eq_append_getElem h, val_snoc]
theorem digit_toNat (d : Nat) (h : d < 10) : (UInt8.ofNat (48 + d)).toNat = 48 + d := by
  rw [UInt8.toNat_ofNat']; omega

/-- What the digits of u are. -/
theorem dec_facts (u : Nat) : (∀ c ∈ Lib.decDigits u, 48 ≤ c.toNat ∧ c.toNat ≤ 57) ∧ val (Lib.decDigits u) = u ∧ (0 < u → ∀ c, (Lib.decDigits u).head? = some c → c.toNat ≠ 48) ∧ Lib.decDigits u ≠ [] := by
  induction u using Nat.strongRecOn with
  | ind u ih =>
    by_cases h : u < 10
    · rw [Lib.decDigits_one h]
      have hd := digit_toNat u h
      refine ⟨?_, ?_, ?_, by simp⟩
      · intro c hc; rw [List.mem_singleton] at hc; subst hc; omega
      · show 0 * 10 + ((UInt8.ofNat (48 + u)).toNat - 48) = u; omega
      · intro hu c hc; rw [List.head?_cons, Option.some.injEq] at hc; subst hc; omega
    · have e : Lib.decDigits u = Lib.decDigits (u / 10) ++ [UInt8.ofNat (48 + u % 10)] := by rw [Lib.decDigits, dif_neg h]
      obtain ⟨h1, h2, h3, h4⟩ := ih (u / 10) (by omega)
      have hd := digit_toNat (u % 10) (by omega)
      rw [e]
      refine ⟨?_, ?_, ?_, by simp⟩
      · intro c hc
        rcases List.mem_append.1 hc with hc | hc
        · exact h1 c hc
        · rw [List.mem_singleton] at hc; subst hc; omega
      · rw [val_snoc, h2, hd]; omega
      · intro _ c hc
        refine h3 (by omega) c ?_
        cases hl : Lib.decDigits (u / 10) with
        | nil => exact absurd hl h4
        | cons a r => rw [hl] at hc; exact hc
/-- The byte at place j of a string. -/
theorem byte_at (L : List UInt8) (j : Nat) (_h : j < (⟨L.toArray⟩ : ByteArray).size) (h' : j < L.length) : (⟨L.toArray⟩ : ByteArray)[j] = L[j] := rfl
end Go.Proofs.Qxb6617168aFmt.str
