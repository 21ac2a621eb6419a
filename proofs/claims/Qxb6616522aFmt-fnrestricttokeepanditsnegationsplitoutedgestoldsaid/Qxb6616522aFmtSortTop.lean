/-
  slices.Sort[[]int32,int32] AT THIS DUMP: its own body, over the walks of the sort's functions (turned from the guide's walks at int) and the imported plain layer.
-/
import Derived.Test.Qxb6616522aFmtSort13
import Derived.Test.Qxb6616522aFmtSortA6
import Derived.Test.Qxb6616522aFmtSortB
import Derived.Test.Qxb6616522aFmtSortC
import Derived.Test.Qxb6616522aFmtSortC4
import Derived.Test.Qxb6616522aFmtSort7
import Derived.Test.Qxb6616522aFmtSort11
import Derived.Sort.AssemblyPlain
namespace Go.Proofs.Qxb6616522aFmt
open Go.RowKit Go.Sort

theorem callees : Callees32 := {
  ins := fun blk off cap a b d w hH h1 h2 h3 => insertionSort_i32 blk off cap a b d w hH h1 h2 h3
  brk := fun blk off cap a b d w hH h0 h1 h2 h3 => breakPatterns_i32 blk off cap a b d w hH h0 h1 h2 h3
  piv := fun blk off cap a b d w hH h0 h1 h2 h3 => choosePivot_i32 blk off cap a b d w hH h0 h1 h2 h3
  par := fun blk off cap a b d w hH h1 h2 h3 => partialInsertionSort_i32 blk off cap a b d w hH h1 h2 h3
  peq := fun blk off cap a b pivot d w hH h1 h2 h3 h4 => partitionEqualOrdered_i32 blk off cap a b pivot d w hH h1 h2 h3 h4
  prt := fun blk off cap a b pivot d w hH h1 h2 h3 h4 => partitionOrdered_i32 blk off cap a b pivot d w hH h1 h2 h3 h4 }

theorem plain13 : Plain13 := {
  swo := swo_ltInt
  ins := insertionSort_holds
  par := partialInsertionSort_holds
  prt := partition_holds ltInt
  peq := partitionEqual_holds ltInt
  pdq := pdq_sorts ltInt }

set_option maxRecDepth 100000 in
/-- slices.Sort[[]int32,int32]: the row is sorted; nothing else turns but new blocks behind the heap. -/
theorem sort_i32 (blk off cap : Nat) (d : Array Int) (w : World) (hH : Holds enc32 w blk off d) (hblk : blk < w.heap.size) (hsz : d.size < 4611686018427387904) :
    Calls Tryf.prog 24 #[.slice (some ⟨blk, off, none⟩) d.size cap] w fun e w' => e = .returned (.tuple #[]) ∧ ∃ n os, w' = grow (putRow enc32 (Sort.ahead w n) blk off (Sort.sort ltInt d)) os := by
  have HH : Hid (Holds enc32 w blk off d) := hH
  clear hH
  have hLen : ∀ w, Calls Tryf.prog 32 #[.int .u64 (d.size : Int)] w fun e w' => e = .returned (.int .i64 (bitsLen d.size : Nat)) ∧ w' = w := fun w => by
    have h := Tryf.bits_Len (d.size : Int) w (by omega) (by omega)
    rwa [Int.toNat_natCast, bitLen_eq _ (by omega)] at h
  have hk : bitsLen d.size ≤ 62 := (bitsLen_le_iff d.size 62).2 (by omega)
  go_enter Tryf.func24, Tryf.ntmps24
  go_wp2_with (first
    | (go_at_call 32; refine (hLen _).mono ?_; rintro e w' ⟨rfl, rfl⟩)
    | (go_at_call 31; refine (pdqsort_i32 callees plain13 (d.size + 1) blk off cap 0 d.size (bitsLen d.size) d _ (by omega) (by exact HH.out) (by exact hblk) (Nat.zero_le _) (Nat.le_refl _) hsz (by omega) (Or.inl rfl)).mono ?_; rintro e w' ⟨rfl, n, os, rfl⟩))
  go_end0
  exact ⟨rfl, n, os, rfl⟩
end Go.Proofs.Qxb6616522aFmt
