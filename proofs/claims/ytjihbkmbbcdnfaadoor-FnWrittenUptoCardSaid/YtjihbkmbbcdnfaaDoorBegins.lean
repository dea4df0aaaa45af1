/-
  The walk of the laws' own begins, from the first place on, where the bytes do begin so.
-/
import Derived.Test.YtjihbkmbbcdnfaaDoorEqual
namespace Go.Proofs.YtjihbkmbbcdnfaaDoor
open Go.RowKit

section
variable {P : Program}
theorem slice_zero_upto (t e : TypeId) (ht : P.underlying t = some (.slice e)) (hsz : (P.info? e).map (·.size) = some 1) (a : Option Addr) (n c hi : Nat) (h2 : hi ≤ c) (k1 k2 : IntKind) :
    ∀ w, (Instr.slice t (.slice a n c) (some (.int k1 0)) (some (.int k2 hi)) none).run P w = .ok (.slice a hi c) w := by
  obtain ⟨i, hi', hs⟩ := Option.map_eq_some_iff.1 hsz
  intro w
  simp [Instr.slice, run_underlying ht, Instr.sliceBounds, Instr.sliceBound, asIntOf, sizeOf, typeInfo, hi', h2]
  intro _
  cases a <;> simp [Addr.add]
end

set_option maxRecDepth 100000 in
theorem begins_at (w : World) (a1 a2 : Option Addr) (c1 c2 n1 n2 : Nat) (x y : List UInt8) (h1 : BytesAt w (.slice a1 n1 c1) x) (h2 : BytesAt w (.slice a2 n2 c2) y) (hn1 : x.length = n1) (hn2 : y.length = n2) (hl : n2 ≤ n1) (hxy : y = x.take n2) (hx : n1 ≤ 9223372036854775807) :
    Calls Tryd.prog 31 #[.slice a1 n1 c1, .int .i64 0, .slice a2 n2 c2] w fun e w' => e = .returned (.bool true) ∧ New w w' := by
  have hc : n1 ≤ c1 := by have := (RowAt.parts h1).2.1; rw [bytesV_length] at this; omega
  have hk : BytesAt w (.slice a1 n2 c1) (x.take n2) := by
    have := RowAt.upto h1 (k := n2) (by rw [bytesV_length]; omega)
    rw [show (bytesV x).take n2 = bytesV (x.take n2) from by simp [bytesV]] at this
    exact this
  rw [← hxy] at hk
  have hsl := slice_zero_upto (P := Tryd.prog) 27 5 Tryd.underlying27 sizeByte a1 n1 c1 n2 (by omega) .i64 .i64
  have HK := Lib.hid hk
  have H2 := Lib.hid h2
  have Hn2 := Lib.hid hn2
  have hl' : (n2 : Int) ≤ n1 := by omega
  have hlx : n2 ≤ 9223372036854775807 := by omega
  clear h1 h2 hk hn1 hn2 hxy
  go_enter Tryd.func31, Tryd.ntmps31
  go_wp2_with fail
  refine (equal_gen _ _ _ y y HK.out H2.out (by rw [Hn2.out]; exact hlx) true (by simp)).mono ?_
  rintro e w1 ⟨rfl, hn⟩
  go_wp2
  go_ret
  exact ⟨rfl, hn⟩
end Go.Proofs.YtjihbkmbbcdnfaaDoor
