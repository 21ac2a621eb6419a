/-
  THE SHELF's CONTRACTS FOR strconv.Itoa AND (*strings.Builder).String AT THIS DUMP, IN PLAIN WORDS (written by the kit's lay-shelf.mjs and lay-plain.mjs; the others struck).
-/
import Derived.Shelf.Strings.BuilderK
import Derived.Shelf.LaysM
import Derived.Shelf.Strconv.Itoa3
import Derived.Test.Qxb6617168aFmtProg
namespace Go.Proofs
open Go.Shelf
def Tryf.lays169_ren : Go.Shelf.Ren := ⟨fun | 169 => 15 | n => n, fun | 70 => 38 | 9 => 9 | 0 => 0 | 72 => 41 | 37 => 39 | 127 => 52 | 3 => 3 | 5 => 5 | n => n, fun | n => n⟩
theorem Tryf.lays169 : Go.Proofs.Lays.n169 Tryf.prog Tryf.lays169_ren := {
  mixed := by kernel_rfl
  f169 := Tryf.func15.trans (congrArg some (by kernel_rfl))
  t0 := Tryf.underlying0
  a0 := Tryf.isAgg0
  z0 := Tryf.sizeOf0
  v0 := Tryf.zeroValue0
  t3 := Tryf.underlying3
  a3 := Tryf.isAgg3
  z3 := Tryf.sizeOf3
  v3 := Tryf.zeroValue3
  t9 := Tryf.underlying9
  a9 := Tryf.isAgg9
  z9 := Tryf.sizeOf9
  v9 := Tryf.zeroValue9
  t37 := Tryf.underlying39
  a37 := Tryf.isAgg39
  z37 := Tryf.sizeOf39
  v37 := Tryf.zeroValue39
  t70 := Tryf.underlying38
  a70 := Tryf.isAgg38
  z70 := Tryf.sizeOf38
  v70 := Tryf.zeroValue38
  t72 := Tryf.underlying41
  a72 := Tryf.isAgg41
  z72 := Tryf.sizeOf41
  v72 := Tryf.zeroValue41
  t127 := Tryf.underlying52
  a127 := Tryf.isAgg52
  z127 := Tryf.sizeOf52
  v127 := Tryf.zeroValue52 }
theorem Tryf.Builder_Extra_169 : Builder.Extra Tryf.prog Tryf.lays169_ren := {
  sizeBuilder := by kernel_rfl
  liesBuilder := by kernel_rfl
  t5 := Tryf.underlying5
  a5 := Tryf.isAgg5
  z5 := Tryf.sizeOf5
  v5 := Tryf.zeroValue5
  infoByte := by kernel_rfl
  cellsByte := by kernel_rfl
  sizeByte := by kernel_rfl
  neB5 := by decide }
open Go.RowKit in
/-- (*strings.Builder).String: "String returns the accumulated string.": WHATEVER THE BUILDER HOLDS; THE FORM '_k': OVER 'Lib.IsBuilderF' (a builder that 'String()' may have read), AND WITH THE FRAME THAT REACHES ABOVE THE BUILDER: 'Lib.OthersKept': every block that is not b and is no row of uint8's stands as it stood: the iterator of a range among them. (LAID: no walk: one application.) -/
theorem Tryf.Builder_String_any_k (B b : Nat) (l : List UInt8) (w : World) (h : Lib.IsBuilderF 41 5 B b (Lib.byteCells l) w) (hBw : B ≤ w.heap.size) :
    Calls Tryf.prog 15 #[.pointer (some ⟨b, 0, none⟩)] w fun e w' => e = .returned (.string ⟨l.toArray⟩) ∧ (Lib.IsBuilderF 41 5 B b (Lib.byteCells l) w' ∧ Below B w w' ∧ Lib.OthersKept 5 (some b) w w') := Any.Builder_String_any_k Tryf.lays169 Tryf.Builder_Extra_169 B b l w h hBw
def Tryf.laysM171_ren : Go.Shelf.Ren := ⟨fun | 171 => 14 | 243 => 19 | 246 => 22 | 283 => 23 | 284 => 24 | 285 => 25 | 286 => 26 | 129 => 28 | 317 => 27 | 318 => 29 | 319 => 30 | 320 => 31 | 337 => 32 | 338 => 33 | n => n, fun | 3 => 3 | 9 => 9 | 2 => 2 | 4 => 4 | 171 => 57 | 0 => 0 | 53 => 58 | 37 => 39 | 5 => 5 | 173 => 61 | 212 => 65 | 51 => 66 | 20 => 20 | 213 => 67 | 46 => 51 | 232 => 70 | 233 => 71 | n => n, fun | 17 => 0 | 18 => 1 | 19 => 2 | n => n⟩
theorem Tryf.laysM171 : Go.Proofs.LaysM.n171 Tryf.prog Tryf.laysM171_ren := {
  mixed := by kernel_rfl
  f129 := Tryf.func28.trans (congrArg some (by kernel_rfl))
  f171 := Tryf.func14.trans (congrArg some (by kernel_rfl))
  f243 := Tryf.func19.trans (congrArg some (by kernel_rfl))
  f246 := Tryf.func22.trans (congrArg some (by kernel_rfl))
  f283 := Tryf.func23.trans (congrArg some (by kernel_rfl))
  f284 := Tryf.func24.trans (congrArg some (by kernel_rfl))
  f285 := Tryf.func25.trans (congrArg some (by kernel_rfl))
  f286 := Tryf.func26.trans (congrArg some (by kernel_rfl))
  f317 := Tryf.func27.trans (congrArg some (by kernel_rfl))
  f318 := Tryf.func29.trans (congrArg some (by kernel_rfl))
  f319 := Tryf.func30.trans (congrArg some (by kernel_rfl))
  f320 := Tryf.func31.trans (congrArg some (by kernel_rfl))
  f337 := Tryf.func32.trans (congrArg some (by kernel_rfl))
  f338 := Tryf.func33.trans (congrArg some (by kernel_rfl))
  t0 := Tryf.underlying0
  a0 := Tryf.isAgg0
  z0 := Tryf.sizeOf0
  v0 := Tryf.zeroValue0
  t2 := Tryf.underlying2
  a2 := Tryf.isAgg2
  z2 := Tryf.sizeOf2
  v2 := Tryf.zeroValue2
  t3 := Tryf.underlying3
  a3 := Tryf.isAgg3
  z3 := Tryf.sizeOf3
  v3 := Tryf.zeroValue3
  t4 := Tryf.underlying4
  a4 := Tryf.isAgg4
  z4 := Tryf.sizeOf4
  v4 := Tryf.zeroValue4
  t5 := Tryf.underlying5
  a5 := Tryf.isAgg5
  z5 := Tryf.sizeOf5
  v5 := Tryf.zeroValue5
  t9 := Tryf.underlying9
  a9 := Tryf.isAgg9
  z9 := Tryf.sizeOf9
  v9 := Tryf.zeroValue9
  t20 := Tryf.underlying20
  a20 := Tryf.isAgg20
  z20 := Tryf.sizeOf20
  v20 := Tryf.zeroValue20
  t37 := Tryf.underlying39
  a37 := Tryf.isAgg39
  z37 := Tryf.sizeOf39
  v37 := Tryf.zeroValue39
  t46 := Tryf.underlying51
  a46 := Tryf.isAgg51
  z46 := Tryf.sizeOf51
  v46 := Tryf.zeroValue51
  t51 := Tryf.underlying66
  a51 := Tryf.isAgg66
  z51 := Tryf.sizeOf66
  v51 := Tryf.zeroValue66
  t53 := Tryf.underlying58
  a53 := Tryf.isAgg58
  z53 := Tryf.sizeOf58
  v53 := Tryf.zeroValue58
  t171 := Tryf.underlying57
  a171 := Tryf.isAgg57
  z171 := Tryf.sizeOf57
  v171 := Tryf.zeroValue57
  t173 := Tryf.underlying61
  a173 := Tryf.isAgg61
  z173 := Tryf.sizeOf61
  v173 := Tryf.zeroValue61
  t212 := Tryf.underlying65
  a212 := Tryf.isAgg65
  z212 := Tryf.sizeOf65
  v212 := Tryf.zeroValue65
  t213 := Tryf.underlying67
  a213 := Tryf.isAgg67
  z213 := Tryf.sizeOf67
  t232 := Tryf.underlying70
  a232 := Tryf.isAgg70
  z232 := Tryf.sizeOf70
  v232 := Tryf.zeroValue70
  t233 := Tryf.underlying71
  a233 := Tryf.isAgg71
  z233 := Tryf.sizeOf71
  v233 := Tryf.zeroValue71
  g17 := by kernel_rfl
  g18 := by kernel_rfl
  g19 := by kernel_rfl
  i0 := by kernel_rfl
  i2 := by kernel_rfl
  i3 := by kernel_rfl
  i4 := by kernel_rfl
  i5 := by kernel_rfl
  i9 := by kernel_rfl
  i20 := by kernel_rfl
  i37 := by kernel_rfl
  i46 := by kernel_rfl
  i51 := by kernel_rfl
  i53 := by kernel_rfl
  i171 := by kernel_rfl
  i173 := by kernel_rfl
  i212 := by kernel_rfl
  i232 := by kernel_rfl
  i233 := by kernel_rfl
  m17 := by kernel_rfl
  m18 := by kernel_rfl
  m19 := by kernel_rfl }
end Go.Proofs
