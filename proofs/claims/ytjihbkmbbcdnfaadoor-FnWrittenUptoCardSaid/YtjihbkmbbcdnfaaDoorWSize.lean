/-
  The walk of the thin package's WriterSize, in a writer's seat.
-/
import Derived.Test.YtjihbkmbbcdnfaaDoorWrite2
namespace Go.Proofs.YtjihbkmbbcdnfaaDoor
open Go.RowKit

theorem writerSize_any (a0 : Int) (h1 : -32768 ≤ a0) (h2 : a0 ≤ 32767) (w : World) (z : Nat) (hz : wsize a0 = z) :
    Calls Tryd.prog 30 #[.int .i16 a0] w fun e w' => e = .returned (.int .i64 z) ∧ New w w' := by
  have has := as_writing
  by_cases h : a0 ≤ 0
  · have hmk : ∀ w, (Instr.makeSlice 27 (.int .i64 4096) (.int .i64 4096)).run Tryd.prog w = .ok (.slice (some ⟨w.heap.size, 0, none⟩) 4096 4096) (w.alloc (.cells (madeCells #[.int .u8 0] 4096) 5)) := fun w => run_make_row' (P := Tryd.prog) 27 5 (.int .u8 0) 1 Tryd.underlying27 infoByte rfl .i64 .i64 4096 (by omega) (by omega) w
    rw [wsize, if_pos h] at hz
    subst hz
    go_enter Tryd.func30, Tryd.ntmps30
    go_wp2
    go_ret
    exact ⟨rfl, by repeat (first | exact Keep.refl _ _ | apply Keep.drew | apply Keep.alloc)⟩
  · obtain ⟨n, rfl⟩ := Int.eq_ofNat_of_zero_le (a := a0) (by omega)
    have hmk := fun w => run_make_row' (P := Tryd.prog) 27 5 (.int .u8 0) 1 Tryd.underlying27 infoByte rfl .i64 .i64 n (by omega) (by omega) w
    obtain rfl : n = z := by rw [wsize, if_neg (by omega)] at hz; omega
    clear hz
    go_enter Tryd.func30, Tryd.ntmps30
    go_wp2
    go_ret
    exact ⟨rfl, by repeat (first | exact Keep.refl _ _ | apply Keep.drew | apply Keep.alloc)⟩
end Go.Proofs.YtjihbkmbbcdnfaaDoor
