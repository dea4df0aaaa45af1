/-
  The law's own encoded: the bytes of a rune in a new row.
-/
import Derived.Test.YtfigpbcmnlkdjaaDoorRuneP
import Derived.Laws.IdiomCopy
import Derived.Test.YtfigpbcmnlkdjaaDoorEqual
namespace Go.Proofs.YtfigpbcmnlkdjaaDoor
open Go.RowKit

theorem i32and63 (x : Int) (h0 : 0 ≤ x) (h1 : x < 2147483648) : bits .and .i32 x 63 = x % 64 := bits_mask .i32 31 (by decide) wraps_i32 6 (by decide) x h0 h1
theorem i32or128 (y : Int) (h0 : 0 ≤ y) (h1 : y < 64) : bits .or .i32 128 y = 128 + y := bits_join .i32 31 (by decide) wraps_i32 6 128 y (by decide) (by decide) (by decide) h0 h1 (by omega)
theorem i32or192 (y : Int) (h0 : 0 ≤ y) (h1 : y < 64) : bits .or .i32 192 y = 192 + y := bits_join .i32 31 (by decide) wraps_i32 6 192 y (by decide) (by decide) (by decide) h0 h1 (by omega)
theorem i32or224 (y : Int) (h0 : 0 ≤ y) (h1 : y < 32) : bits .or .i32 224 y = 224 + y := bits_join .i32 31 (by decide) wraps_i32 5 224 y (by decide) (by decide) (by decide) h0 h1 (by omega)
theorem i32or240 (y : Int) (h0 : 0 ≤ y) (h1 : y < 16) : bits .or .i32 240 y = 240 + y := bits_join .i32 31 (by decide) wraps_i32 4 240 y (by decide) (by decide) (by decide) h0 h1 (by omega)
theorem lt256 (x : Int) (h0 : 0 ≤ x) (h1 : x < 256) : x % 256 = x := by omega

set_option maxHeartbeats 4000000 in
set_option maxRecDepth 100000 in
theorem enc_neg (r : Int) (h0 : -2147483648 ≤ r) (h1 : r < 0) (w : World) :
    Calls Tryd.prog 11 #[.int .i32 r] w fun e w' => e = .returned (.slice (some ⟨w.heap.size, 0, none⟩) 3 3) ∧ w' = w.alloc (.cells ([.int .u8 239, .int .u8 191, .int .u8 189] : List Value).toArray 5) := by
  go_enter Tryd.func11, Tryd.ntmps11
  go_wp2
  go_ret
  exact ⟨rfl, by first | rfl | (simp (disch := omega) only [i32and63, i32or128, i32or192, i32or224, i32or240, lt256])⟩

set_option maxHeartbeats 4000000 in
set_option maxRecDepth 100000 in
theorem enc_one (r : Int) (h0 : 0 ≤ r) (h1 : r < 128) (w : World) :
    Calls Tryd.prog 11 #[.int .i32 r] w fun e w' => e = .returned (.slice (some ⟨w.heap.size, 0, none⟩) 1 1) ∧ w' = w.alloc (.cells ([.int .u8 r] : List Value).toArray 5) := by
  go_enter Tryd.func11, Tryd.ntmps11
  go_wp2
  go_ret
  exact ⟨rfl, by first | rfl | (simp (disch := omega) only [i32and63, i32or128, i32or192, i32or224, i32or240, lt256])⟩

set_option maxHeartbeats 4000000 in
set_option maxRecDepth 100000 in
theorem enc_two (r : Int) (h0 : 128 ≤ r) (h1 : r ≤ 2047) (w : World) :
    Calls Tryd.prog 11 #[.int .i32 r] w fun e w' => e = .returned (.slice (some ⟨w.heap.size, 0, none⟩) 2 2) ∧ w' = w.alloc (.cells ([.int .u8 (192 + r / 64), .int .u8 (128 + r % 64)] : List Value).toArray 5) := by
  go_enter Tryd.func11, Tryd.ntmps11
  go_wp2
  go_ret
  exact ⟨rfl, by first | rfl | (simp (disch := omega) only [i32and63, i32or128, i32or192, i32or224, i32or240, lt256])⟩

set_option maxHeartbeats 4000000 in
set_option maxRecDepth 100000 in
theorem enc_lo (r : Int) (h0 : 2048 ≤ r) (h1 : r < 55296) (w : World) :
    Calls Tryd.prog 11 #[.int .i32 r] w fun e w' => e = .returned (.slice (some ⟨w.heap.size, 0, none⟩) 3 3) ∧ w' = w.alloc (.cells ([.int .u8 (224 + r / 4096), .int .u8 (128 + r / 64 % 64), .int .u8 (128 + r % 64)] : List Value).toArray 5) := by
  go_enter Tryd.func11, Tryd.ntmps11
  go_wp2
  go_ret
  exact ⟨rfl, by first | rfl | (simp (disch := omega) only [i32and63, i32or128, i32or192, i32or224, i32or240, lt256])⟩

set_option maxHeartbeats 4000000 in
set_option maxRecDepth 100000 in
theorem enc_sur (r : Int) (h0 : 55296 ≤ r) (h1 : r ≤ 57343) (w : World) :
    Calls Tryd.prog 11 #[.int .i32 r] w fun e w' => e = .returned (.slice (some ⟨w.heap.size, 0, none⟩) 3 3) ∧ w' = w.alloc (.cells ([.int .u8 239, .int .u8 191, .int .u8 189] : List Value).toArray 5) := by
  go_enter Tryd.func11, Tryd.ntmps11
  go_wp2
  go_ret
  exact ⟨rfl, by first | rfl | (simp (disch := omega) only [i32and63, i32or128, i32or192, i32or224, i32or240, lt256])⟩

set_option maxHeartbeats 4000000 in
set_option maxRecDepth 100000 in
theorem enc_hi (r : Int) (h0 : 57343 < r) (h1 : r ≤ 65535) (w : World) :
    Calls Tryd.prog 11 #[.int .i32 r] w fun e w' => e = .returned (.slice (some ⟨w.heap.size, 0, none⟩) 3 3) ∧ w' = w.alloc (.cells ([.int .u8 (224 + r / 4096), .int .u8 (128 + r / 64 % 64), .int .u8 (128 + r % 64)] : List Value).toArray 5) := by
  go_enter Tryd.func11, Tryd.ntmps11
  go_wp2
  go_ret
  exact ⟨rfl, by first | rfl | (simp (disch := omega) only [i32and63, i32or128, i32or192, i32or224, i32or240, lt256])⟩

set_option maxHeartbeats 4000000 in
set_option maxRecDepth 100000 in
theorem enc_four (r : Int) (h0 : 65536 ≤ r) (h1 : r ≤ 1114111) (w : World) :
    Calls Tryd.prog 11 #[.int .i32 r] w fun e w' => e = .returned (.slice (some ⟨w.heap.size, 0, none⟩) 4 4) ∧ w' = w.alloc (.cells ([.int .u8 (240 + r / 262144), .int .u8 (128 + r / 4096 % 64), .int .u8 (128 + r / 64 % 64), .int .u8 (128 + r % 64)] : List Value).toArray 5) := by
  go_enter Tryd.func11, Tryd.ntmps11
  go_wp2
  go_ret
  exact ⟨rfl, by first | rfl | (simp (disch := omega) only [i32and63, i32or128, i32or192, i32or224, i32or240, lt256])⟩

set_option maxHeartbeats 4000000 in
set_option maxRecDepth 100000 in
theorem enc_big (r : Int) (h0 : 1114111 < r) (h1 : r ≤ 2147483647) (w : World) :
    Calls Tryd.prog 11 #[.int .i32 r] w fun e w' => e = .returned (.slice (some ⟨w.heap.size, 0, none⟩) 3 3) ∧ w' = w.alloc (.cells ([.int .u8 239, .int .u8 191, .int .u8 189] : List Value).toArray 5) := by
  go_enter Tryd.func11, Tryd.ntmps11
  go_wp2
  go_ret
  exact ⟨rfl, by first | rfl | (simp (disch := omega) only [i32and63, i32or128, i32or192, i32or224, i32or240, lt256])⟩

theorem cells_encoded (w : World) (l : List Value) : ∀ ad', some (⟨w.heap.size, 0, none⟩ : Addr) = some ad' → CellsAt (w.alloc (.cells l.toArray 5)) ad' l := by
  intro ad' e' j u hu
  cases e'
  rw [addr0_add]
  exact (cell_new w l.toArray 5 j).trans (by simpa using hu)

/-- The bytes of a rune in a new block. -/
theorem encoded_any (w : World) (r : Int) (hlo : -2147483648 ≤ r) (hhi : r ≤ 2147483647) :
    Calls Tryd.prog 11 #[.int .i32 r] w fun e w' => e = .returned (.slice (some ⟨w.heap.size, 0, none⟩) (runeB r).length (runeB r).length) ∧ w' = w.alloc (.cells (bytesV (runeB r)).toArray 5) := by
  have hl : (runeB r).length = (Lib.runeCells r).length := (Lib.runeCells_length r).symm
  rw [hl, runeB_cells]
  by_cases n0 : r < 0
  · have e := runeCells_of (Lib.encodeRuneZ_bad (Or.inl n0))
    rw [e]
    exact enc_neg r hlo n0 w
  by_cases n6 : r < 128
  · have e := runeCells_of (Lib.encodeRuneZ_one (r := r) (by omega) (by omega))
    rw [e]
    exact enc_one r (by omega) n6 w
  by_cases n1 : r ≤ 2047
  · have e := runeCells_of (Lib.encodeRuneZ_two (by omega) n1)
    rw [e]
    exact enc_two r (by omega) n1 w
  by_cases n2 : r < 55296
  · have e := runeCells_of (Lib.encodeRuneZ_three (Or.inl ⟨by omega, n2⟩))
    rw [e]
    exact enc_lo r (by omega) n2 w
  by_cases n3 : r ≤ 57343
  · have e := runeCells_of (Lib.encodeRuneZ_bad (Or.inr (Or.inl ⟨by omega, n3⟩)))
    rw [e]
    exact enc_sur r (by omega) n3 w
  by_cases n4 : r ≤ 65535
  · have e := runeCells_of (Lib.encodeRuneZ_three (Or.inr ⟨by omega, n4⟩))
    rw [e]
    exact enc_hi r (by omega) n4 w
  by_cases n5 : r ≤ 1114111
  · have e := runeCells_of (Lib.encodeRuneZ_four (by omega) n5)
    rw [e]
    exact enc_four r (by omega) n5 w
  · have e := runeCells_of (Lib.encodeRuneZ_bad (r := r) (Or.inr (Or.inr (by omega))))
    rw [e]
    exact enc_big r (by omega) hhi w

/-- What the walks use of it. -/
theorem encoded_new (w : World) (r : Int) (hlo : -2147483648 ≤ r) (hhi : r ≤ 2147483647) (m : Nat) (hm : (runeB r).length = m) :
    Calls Tryd.prog 11 #[.int .i32 r] w fun e w' => e = .returned (.slice (some ⟨w.heap.size, 0, none⟩) m m) ∧ w'.heap.size = w.heap.size + 1 ∧ (∀ ad', some (⟨w.heap.size, 0, none⟩ : Addr) = some ad' → CellsAt w' ad' (bytesV (runeB r))) ∧ New w w' := by
  subst hm
  refine (encoded_any w r hlo hhi).mono fun e w' ⟨h1, h2⟩ => ?_
  subst h2
  exact ⟨h1, by simp, cells_encoded w _, (Keep.refl _ w).alloc _⟩
end Go.Proofs.YtfigpbcmnlkdjaaDoor
