/-
  The library's DecodeRune by the kit's contract: the numbers of this program's copy of it.
-/
import Derived.Test.YtfigpbcmnlkdjaaDoorCopied
import Derived.Shelf.Spec.DecodeRune
namespace Go.Proofs.YtfigpbcmnlkdjaaDoor
open Go.RowKit Go.Shelf

/-- The numbers of this program's DecodeRune, of its types and of its two tables. -/
def decRen : Ren := ⟨fun n => if n = 32 then 35 else if n = 49 then 40 else 0, fun n => if n = 0 then 0 else if n = 3 then 3 else if n = 4 then 4 else if n = 5 then 5 else if n = 21 then 21 else if n = 25 then 59 else if n = 30 then 23 else if n = 33 then 80 else if n = 66 then 89 else if n = 68 then 91 else if n = 69 then 92 else 0, fun n => if n = 2 then 9 else if n = 3 then 10 else 0⟩

set_option maxRecDepth 100000 in
theorem decLays : Lays7.n32 Tryd.prog decRen where
  mixed := by kernel_rfl
  f32 := by kernel_rfl
  f49 := by kernel_rfl
  t0 := by kernel_rfl
  a0 := fun w => by kernel_rfl
  z0 := fun w => by kernel_rfl
  v0 := fun w => by kernel_rfl
  i0 := by kernel_rfl
  t3 := by kernel_rfl
  a3 := fun w => by kernel_rfl
  z3 := fun w => by kernel_rfl
  v3 := fun w => by kernel_rfl
  i3 := by kernel_rfl
  t4 := by kernel_rfl
  a4 := fun w => by kernel_rfl
  z4 := fun w => by kernel_rfl
  v4 := fun w => by kernel_rfl
  i4 := by kernel_rfl
  t5 := by kernel_rfl
  a5 := fun w => by kernel_rfl
  z5 := fun w => by kernel_rfl
  v5 := fun w => by kernel_rfl
  i5 := by kernel_rfl
  t21 := by kernel_rfl
  a21 := fun w => by kernel_rfl
  z21 := fun w => by kernel_rfl
  v21 := fun w => by kernel_rfl
  i21 := by kernel_rfl
  t25 := by kernel_rfl
  a25 := fun w => by kernel_rfl
  z25 := fun w => by kernel_rfl
  v25 := fun w => by kernel_rfl
  i25 := by kernel_rfl
  t30 := by kernel_rfl
  a30 := fun w => by kernel_rfl
  z30 := fun w => by kernel_rfl
  v30 := fun w => by kernel_rfl
  i30 := by kernel_rfl
  t33 := by kernel_rfl
  a33 := fun w => by kernel_rfl
  z33 := fun w => by kernel_rfl
  v33 := fun w => by kernel_rfl
  i33 := by kernel_rfl
  t66 := by kernel_rfl
  a66 := fun w => by kernel_rfl
  z66 := fun w => by kernel_rfl
  t68 := by kernel_rfl
  a68 := fun w => by kernel_rfl
  z68 := fun w => by kernel_rfl
  v68 := fun w => by kernel_rfl
  i68 := by kernel_rfl
  t69 := by kernel_rfl
  a69 := fun w => by kernel_rfl
  z69 := fun w => by kernel_rfl
  v69 := fun w => by kernel_rfl
  i69 := by kernel_rfl
  g2 := by kernel_rfl
  g3 := by kernel_rfl
end Go.Proofs.YtfigpbcmnlkdjaaDoor
