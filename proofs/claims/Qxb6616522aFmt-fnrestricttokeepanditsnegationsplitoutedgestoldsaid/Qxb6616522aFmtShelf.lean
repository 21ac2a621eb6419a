/-
  DERIVED: THE SHELF's CONTRACTS AT THIS DUMP, IN PLAIN WORDS (tools/lay-plain.mjs out of 'TryfShelf.lean', which tools/lay-shelf.mjs wrote): THE SAME DECLARATIONS UNDER THE SAME NAMES: 'import', 'namespace', 'open', 'def', 'theorem' AND NOTHING ELSE: no command of the shelf's: FOR A HAND-IN. Each laying: the table of numbers ('.._ren') and one theorem, a field a fact of the dump's own or the kernel's comparison; each contract: ONE APPLICATION.
-/
import Derived.Shelf.Small.Bits
import Derived.Shelf.Strconv.Itoa0
import Derived.Ground.Names2Prog
import Derived.Shelf.Slices.Clone
import Derived.Ground.SlgnProg
import Derived.Shelf.SlicesE.Compact
import Derived.Shelf.SlicesE.Clone
import Derived.Test.Qxb6616522aFmtProg
namespace Go.Proofs
open Go.Shelf
def Tryf.lays128_ren : Go.Shelf.Ren := ⟨fun | 128 => 43 | n => n, fun | 51 => 75 | 3 => 3 | 4 => 4 | 46 => 63 | 5 => 5 | 9 => 9 | n => n, fun | n => n⟩
theorem Tryf.lays128 : Go.Proofs.Lays.n128 Tryf.prog Tryf.lays128_ren := {
  mixed := by kernel_rfl
  f128 := Tryf.func43.trans (congrArg some (by kernel_rfl))
  t3 := Tryf.underlying3
  a3 := Tryf.isAgg3
  z3 := Tryf.sizeOf3
  v3 := Tryf.zeroValue3
  t4 := Tryf.underlying4
  a4 := Tryf.isAgg4
  z4 := Tryf.sizeOf4
  v4 := Tryf.zeroValue4
  t5 := Tryf.underlying5
  a5 := Tryf.isAgg5
  z5 := Tryf.sizeOf5
  v5 := Tryf.zeroValue5
  t9 := Tryf.underlying9
  a9 := Tryf.isAgg9
  z9 := Tryf.sizeOf9
  v9 := Tryf.zeroValue9
  t46 := Tryf.underlying63
  a46 := Tryf.isAgg63
  z46 := Tryf.sizeOf63
  v46 := Tryf.zeroValue63
  t51 := Tryf.underlying75
  a51 := Tryf.isAgg75
  z51 := Tryf.sizeOf75
  v51 := Tryf.zeroValue75 }
/-- bits.Len32: "Len32 returns the minimum number of bits required to represent x; the result is 0 for x == 0.": IT RETURNS 'Lib.bitLen x'; the world is as it was. ('h0', 'h1': x is a uint32.) (LAID: no walk: one application.) -/
theorem Tryf.bits_Len32 (x : Int) (w : World) (h0 : 0 ≤ x) (h1 : x ≤ 4294967295) :
    Calls Tryf.prog 43 #[.int .u32 x] w fun e w' => e = .returned (.int .i64 (Lib.bitLen x.toNat)) ∧ w' = w := Any.bits_Len32 Tryf.lays128 x w h0 h1
def Tryf.lays125_ren : Go.Shelf.Ren := ⟨fun | 125 => 32 | 128 => 43 | 129 => 44 | n => n, fun | 46 => 63 | 3 => 3 | 51 => 75 | 53 => 77 | 4 => 4 | 5 => 5 | 9 => 9 | n => n, fun | n => n⟩
theorem Tryf.lays125 : Go.Proofs.Lays.n125 Tryf.prog Tryf.lays125_ren := {
  mixed := by kernel_rfl
  f125 := Tryf.func32.trans (congrArg some (by kernel_rfl))
  f128 := Tryf.func43.trans (congrArg some (by kernel_rfl))
  f129 := Tryf.func44.trans (congrArg some (by kernel_rfl))
  t3 := Tryf.underlying3
  a3 := Tryf.isAgg3
  z3 := Tryf.sizeOf3
  v3 := Tryf.zeroValue3
  t4 := Tryf.underlying4
  a4 := Tryf.isAgg4
  z4 := Tryf.sizeOf4
  v4 := Tryf.zeroValue4
  t5 := Tryf.underlying5
  a5 := Tryf.isAgg5
  z5 := Tryf.sizeOf5
  v5 := Tryf.zeroValue5
  t9 := Tryf.underlying9
  a9 := Tryf.isAgg9
  z9 := Tryf.sizeOf9
  v9 := Tryf.zeroValue9
  t46 := Tryf.underlying63
  a46 := Tryf.isAgg63
  z46 := Tryf.sizeOf63
  v46 := Tryf.zeroValue63
  t51 := Tryf.underlying75
  a51 := Tryf.isAgg75
  z51 := Tryf.sizeOf75
  v51 := Tryf.zeroValue75
  t53 := Tryf.underlying77
  a53 := Tryf.isAgg77
  z53 := Tryf.sizeOf77
  v53 := Tryf.zeroValue77 }
/-- bits.Len: "Len returns the minimum number of bits required to represent x; the result is 0 for x == 0.": IT RETURNS 'Lib.bitLen x'; the world is as it was. (A uint has 64 bits in the model.) ITS CALLEE bits.Len64 IS MET BY ITS OWN CONTRACT OFF THE SHELF (lay that first). (LAID: no walk: one application.) -/
theorem Tryf.bits_Len (x : Int) (w : World) (h0 : 0 ≤ x) (h1 : x ≤ 18446744073709551615) :
    Calls Tryf.prog 32 #[.int .u64 x] w fun e w' => e = .returned (.int .i64 (Lib.bitLen x.toNat)) ∧ w' = w := Any.bits_Len Tryf.lays125 x w h0 h1
def Tryf.lays129_ren : Go.Shelf.Ren := ⟨fun | 129 => 44 | n => n, fun | 53 => 77 | 3 => 3 | 4 => 4 | 46 => 63 | 5 => 5 | 9 => 9 | n => n, fun | n => n⟩
theorem Tryf.lays129 : Go.Proofs.Lays.n129 Tryf.prog Tryf.lays129_ren := {
  mixed := by kernel_rfl
  f129 := Tryf.func44.trans (congrArg some (by kernel_rfl))
  t3 := Tryf.underlying3
  a3 := Tryf.isAgg3
  z3 := Tryf.sizeOf3
  v3 := Tryf.zeroValue3
  t4 := Tryf.underlying4
  a4 := Tryf.isAgg4
  z4 := Tryf.sizeOf4
  v4 := Tryf.zeroValue4
  t5 := Tryf.underlying5
  a5 := Tryf.isAgg5
  z5 := Tryf.sizeOf5
  v5 := Tryf.zeroValue5
  t9 := Tryf.underlying9
  a9 := Tryf.isAgg9
  z9 := Tryf.sizeOf9
  v9 := Tryf.zeroValue9
  t46 := Tryf.underlying63
  a46 := Tryf.isAgg63
  z46 := Tryf.sizeOf63
  v46 := Tryf.zeroValue63
  t53 := Tryf.underlying77
  a53 := Tryf.isAgg77
  z53 := Tryf.sizeOf77
  v53 := Tryf.zeroValue77 }
/-- bits.Len64: "Len64 returns the minimum number of bits required to represent x; the result is 0 for x == 0.": IT RETURNS 'Lib.bitLen x'; the world is as it was. ('h0', 'h1': x is a uint64.) (LAID: no walk: one application.) -/
theorem Tryf.bits_Len64 (x : Int) (w : World) (h0 : 0 ≤ x) (h1 : x ≤ 18446744073709551615) :
    Calls Tryf.prog 44 #[.int .u64 x] w fun e w' => e = .returned (.int .i64 (Lib.bitLen x.toNat)) ∧ w' = w := Any.bits_Len64 Tryf.lays129 x w h0 h1
def Tryf.laysNm215_ren : Go.Shelf.Ren := ⟨fun | 15 => 28 | n => n, fun | 22 => 31 | 3 => 3 | 4 => 4 | n => n, fun | n => n⟩
theorem Tryf.laysNm215 : Go.Proofs.Lays2.n15 Tryf.prog Tryf.laysNm215_ren := {
  mixed := by kernel_rfl
  f15 := Tryf.func28.trans (congrArg some (by kernel_rfl))
  t3 := Tryf.underlying3
  a3 := Tryf.isAgg3
  z3 := Tryf.sizeOf3
  v3 := Tryf.zeroValue3
  t4 := Tryf.underlying4
  a4 := Tryf.isAgg4
  z4 := Tryf.sizeOf4
  v4 := Tryf.zeroValue4
  t22 := Tryf.underlying31
  a22 := Tryf.isAgg31
  z22 := Tryf.sizeOf31
  v22 := Tryf.zeroValue31
  i3 := by kernel_rfl }
open Go.RowKit Go.Lib in
/-- slices.Clone at []int: "Clone returns a copy of the slice. The elements are copied using assignment, so this is a shallow clone. The result may have additional unused capacity. The result preserves the nilness of s.": OF A SLICE THAT IS NOT nil IT RETURNS A SLICE THAT IS NOT nil, OF THE SAME ELEMENTS, IN MEMORY OF THE CALL's OWN: in the how-to's words (6f): 'w'.ownsRow B e 1 v' n cells': v' begins at the head of a row among the blocks from B on (B: the heap's size at the call), not frozen, whose first cells are the elements · 'Below B w w'': below B all is as it was. The capacity is whatever the run-time gives. 'zs': what the cells behind the slice's address hold; 'zs.take n': its elements. (LAID: no walk: one application.) -/
theorem Tryf.slices_Clone_int (b off n c : Nat) (zs : List Int) (w : World) (hz : n ≤ zs.length) (hbig : n * 8 ≤ 140737488355328) (hc : ∀ j, j < zs.length → w.cell? ⟨b, off + j, none⟩ = some (.int .i64 (zs.getD j 0))) :
    Calls Tryf.prog 28 #[.slice (some ⟨b, off, none⟩) n c] w fun e w' => ∃ v', e = .returned v' ∧ w'.ownsRow w.heap.size 3 1 v' n ((zs.take n).map (Value.int .i64)) ∧ v' ≠ .slice none 0 0 ∧ Below w.heap.size w w' := Any.slices_Clone_int Tryf.laysNm215 b off n c zs w hz hbig hc
open Go.RowKit Go.Lib in
/-- The same at nil: nil comes back; the world is as it was. (LAID: no walk: one application.) -/
theorem Tryf.slices_Clone_int_nil (n c : Nat) (w : World) :
    Calls Tryf.prog 28 #[.slice none n c] w fun e w' => e = .returned (.slice none 0 0) ∧ w' = w := Any.slices_Clone_int_nil Tryf.laysNm215 n c w
open Go.RowKit Go.Lib in
/-- The same at a slice of length 0 that is not nil, WHATEVER ITS ADDRESS (no cell is asked for): a slice that is not nil and owns nothing comes back. (LAID: no walk: one application.) -/
theorem Tryf.slices_Clone_int_zero (a : Addr) (c : Nat) (w : World) :
    Calls Tryf.prog 28 #[.slice (some a) 0 c] w fun e w' => ∃ v', e = .returned v' ∧ w'.ownsRow w.heap.size 3 1 v' 0 [] ∧ v' ≠ .slice none 0 0 ∧ Below w.heap.size w w' := Any.slices_Clone_int_zero Tryf.laysNm215 a c w
def Tryf.laysSlE43_f26_ren : Go.Shelf.Ren := ⟨fun | 43 => 26 | n => n, fun | 22 => 30 | 23 => 21 | 3 => 3 | 4 => 4 | 0 => 0 | n => n, fun | n => n⟩
theorem Tryf.laysSlE43_f26 : Go.Proofs.SlLaysE.n43 Tryf.prog Tryf.laysSlE43_f26_ren := {
  mixed := by kernel_rfl
  f43 := ⟨Tryf.f26.name, by decide, Tryf.func26.trans (congrArg some (by kernel_rfl))⟩
  t0 := Tryf.underlying0
  a0 := Tryf.isAgg0
  z0 := Tryf.sizeOf0
  v0 := Tryf.zeroValue0
  t3 := Tryf.underlying3
  a3 := Tryf.isAgg3
  z3 := Tryf.sizeOf3
  v3 := Tryf.zeroValue3
  t4 := Tryf.underlying4
  a4 := Tryf.isAgg4
  z4 := Tryf.sizeOf4
  v4 := Tryf.zeroValue4
  t22 := Tryf.underlying30
  a22 := Tryf.isAgg30
  z22 := Tryf.sizeOf30
  v22 := Tryf.zeroValue30
  a23 := Tryf.isAgg21
  z23 := Tryf.sizeOf21 }
open Go.RowKit Go.Lib Go.Sort in
/-- slices.Compact: "Compact replaces consecutive runs of equal elements with a single copy. .. Compact zeroes the elements between the new length and the original length.": IT RETURNS THE SLICE CUT TO 'compactUpTo d d.size'; ITS CELLS HOLD THAT, THEN ZERO VALUES up to the old length; the library's two loops are walked. (LAID AT THE INSTANCE 'slices.Compact[[]int32,int32]': no walk: one application.) -/
theorem Tryf.slices_Compact {α : Type} [Inhabited α] [DecidableEq α] (enc : α → Value) (hO : OneCell enc) (heq : EqlAt Tryf.prog 21 enc (fun x y => decide (x = y))) (hne : NeqAt Tryf.prog 21 enc (fun x y => decide (x = y))) (zr : α) (v23 : ∀ w, (zeroValue 21).run Tryf.prog w = .ok (enc zr) w) (blk off cap : Nat) (d : Array α) (w : World) (hH : Holds enc w blk off d) (hsz : d.size ≤ 9223372036854775807) (hcap : d.size ≤ cap) :
    Calls Tryf.prog 26 #[.slice (some ⟨blk, off, none⟩) d.size cap] w fun e w' => e = .returned (.slice (some ⟨blk, off, none⟩) (compactUpTo d d.size).length cap) ∧ ∃ q, w' = putRow enc (Sort.ahead w q) blk off (compactUpTo d d.size ++ List.replicate (d.size - (compactUpTo d d.size).length) zr).toArray := AnyE.slices_Compact Tryf.laysSlE43_f26 enc hO heq hne zr v23 blk off cap d w hH hsz hcap
def Tryf.laysSlE041_f28_ren : Go.Shelf.Ren := ⟨fun | 41 => 28 | n => n, fun | 22 => 31 | 23 => 3 | 4 => 4 | n => n, fun | n => n⟩
theorem Tryf.laysSlE041_f28 : Go.Proofs.SlLaysE0.n41 Tryf.prog Tryf.laysSlE041_f28_ren := {
  mixed := by kernel_rfl
  f41 := ⟨Tryf.f28.name, by decide, Tryf.func28.trans (congrArg some (by kernel_rfl))⟩
  t4 := Tryf.underlying4
  a4 := Tryf.isAgg4
  z4 := Tryf.sizeOf4
  v4 := Tryf.zeroValue4
  t22 := Tryf.underlying31
  a22 := Tryf.isAgg31
  z22 := Tryf.sizeOf31
  v22 := Tryf.zeroValue31 }
open Go.RowKit Go.Lib in
/-- slices.Clone: "Clone returns a copy of the slice. The elements are copied using assignment, so this is a shallow clone. The result may have additional unused capacity. The result preserves the nilness of s.": OF A SLICE THAT IS NOT nil IT RETURNS A SLICE THAT IS NOT nil, OF THE SAME CELLS, IN MEMORY OF THE CALL's OWN ('ownsRow': the how-to's 6f); below the heap's size at the call all is as it was. (LAID AT THE INSTANCE 'slices.Clone[[]int,int]': no walk: one application.) -/
theorem Tryf.slices_Clone (i0 : TypeInfo) (z : Value) (size bytes : Nat) (hi : Tryf.prog.info? 3 = some i0) (hz0 : i0.zero = some z) (hz1 : i0.size = size) (hz2 : i0.bytes = bytes) (hzs : z.cells.size = size) (hsz : 0 < size) (z23 : ∀ w, (Go.sizeOf 3).run Tryf.prog w = .ok size w) (b off n c : Nat) (news : List Value) (w : World) (hl : news.length = n * size) (hn : n ≤ maxLen) (hbig : n * bytes ≤ 140737488355328) (hc : ∀ j u, news[j]? = some u → w.cell? ⟨b, off + j, none⟩ = some u) (h1 : ∀ u ∈ news, u.oneCell' = true) :
    Calls Tryf.prog 28 #[.slice (some ⟨b, off, none⟩) n c] w fun e w' => ∃ v', e = .returned v' ∧ w'.ownsRow w.heap.size 3 size v' n news ∧ v' ≠ .slice none 0 0 ∧ Below w.heap.size w w' := AnyE.slices_Clone Tryf.laysSlE041_f28 i0 z size bytes hi hz0 hz1 hz2 hzs hsz z23 b off n c news w hl hn hbig hc h1
open Go.RowKit Go.Lib in
/-- The same at nil: nil comes back; the world is as it was; nothing is asked of the element's type. (LAID AT THE INSTANCE 'slices.Clone[[]int,int]': no walk: one application.) -/
theorem Tryf.slices_Clone_nil (n c : Nat) (w : World) :
    Calls Tryf.prog 28 #[.slice none n c] w fun e w' => e = .returned (.slice none 0 0) ∧ w' = w := AnyE.slices_Clone_nil Tryf.laysSlE041_f28 n c w
end Go.Proofs
