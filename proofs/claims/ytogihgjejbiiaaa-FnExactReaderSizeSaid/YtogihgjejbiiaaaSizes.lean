/-
  The walks of ReaderSize and WriterSize of the thin package, and of the reference's.
-/
import Derived.Test.YtogihgjejbiiaaaRdAt
namespace Go.Proofs.Ytogihgjejbiiaaa
open Go.RowKit

theorem bytesAt_nil (w : World) : BytesAt w (.slice none 0 0) [] := ⟨none, 0, rfl, by simp [bytesV], by unfold maxLen; omega, fun _ => rfl, fun ad e => by cases e⟩
theorem intsAt_nil (w : World) : IntsAt w (.slice none 0 0) [] := ⟨none, 0, rfl, by simp [intsV], by unfold maxLen; omega, fun _ => rfl, fun ad e => by cases e⟩

theorem implReaderSize (a0 : Int) (h1 : -32768 ≤ a0) (h2 : a0 ≤ 32767) (w : World) :
    Calls Try.prog 12 #[.int .i16 a0] w fun e w' => e = .returned (.int .i64 (max 16 a0)) ∧ New w w' := by
  go_enter Try.func12, Try.ntmps12
  go_wp2_with fail
  refine (start_any (.slice none 0 0) (.slice none 0 0) 0 false [] [] w (bytesAt_nil w) (intsAt_nil w) (by simp) (by simp)).mono ?_
  rintro e w1 ⟨br, rfl, hb1, hs1, hn1⟩
  have HS := Lib.hid (hs1.other (M := fun i => i = br) (fun i _ e => .inl e))
  have HN := Lib.hid hn1
  clear hs1 hn1 hb1
  go_wp2_with fail
  refine (newReader_any (fun _ => .nilIface) br _ a0 w1 HS.out h1 h2).mono ?_
  rintro e w2 ⟨b, bb, rfl, _, _, hr, hn2⟩
  have HR := Lib.hid hr
  have HN2 := Lib.hid hn2
  clear hr hn2
  go_wp2_with fail
  refine (readerSize_any _ b bb br _ w2 HR.out).mono ?_
  rintro e w3 ⟨rfl, rfl⟩
  go_wp2
  go_ret
  have hsz : (((Rd.fresh (Src.start [] [] (decide (0 = 0)) false) (max 16 a0).toNat).size : Nat) : Int) = max 16 a0 := by simp only [Rd.fresh]; omega
  exact ⟨congrArg (fun n => Ending.returned (.int .i64 n)) hsz, HN.out.then HN2.out⟩

theorem as_writing (v : Value) (w : World) : (Instr.typeAssert (.iface 27 v) 40 25 true).run Try.prog w = .ok (.tuple #[.pointer none, .bool false]) w := by kernel_rfl

def wsize (a : Int) : Int := if a ≤ 0 then 4096 else a

theorem implWriterSize (a0 : Int) (h1 : -32768 ≤ a0) (h2 : a0 ≤ 32767) (w : World) :
    Calls Try.prog 10 #[.int .i16 a0] w fun e w' => e = .returned (.int .i64 (wsize a0)) ∧ New w w' := by
  have has := as_writing
  by_cases h : a0 ≤ 0
  · have hmk : ∀ w, (Instr.makeSlice 28 (.int .i64 4096) (.int .i64 4096)).run Try.prog w = .ok (.slice (some ⟨w.heap.size, 0, none⟩) 4096 4096) (w.alloc (.cells (madeCells #[.int .u8 0] 4096) 5)) := fun w => run_make_row' (P := Try.prog) 28 5 (.int .u8 0) 1 Try.underlying28 infoByte rfl .i64 .i64 4096 (by omega) (by omega) w
    go_enter Try.func10, Try.ntmps10
    go_wp2
    go_ret
    exact ⟨by rw [wsize, if_pos h]; rfl, by repeat (first | exact Keep.refl _ _ | apply Keep.drew | apply Keep.alloc)⟩
  · obtain ⟨n, rfl⟩ := Int.eq_ofNat_of_zero_le (a := a0) (by omega)
    have hmk := fun w => run_make_row' (P := Try.prog) 28 5 (.int .u8 0) 1 Try.underlying28 infoByte rfl .i64 .i64 n (by omega) (by omega) w
    go_enter Try.func10, Try.ntmps10
    go_wp2
    go_ret
    exact ⟨by rw [wsize, if_neg (by omega)]; rfl, by repeat (first | exact Keep.refl _ _ | apply Keep.drew | apply Keep.alloc)⟩
end Go.Proofs.Ytogihgjejbiiaaa
