/-
  The two cases of the sizes, each with a plain result.
-/
import Derived.Test.YtogihgjejbiiaaaSizes
namespace Go.Proofs.Ytogihgjejbiiaaa
open Go.RowKit

theorem implReaderSize_lo (a0 : Int) (h1 : -32768 ≤ a0) (h2 : a0 ≤ 32767) (h : a0 ≤ 16) (w : World) :
    Calls Try.prog 12 #[.int .i16 a0] w fun e w' => e = .returned (.int .i64 16) ∧ New w w' :=
  (implReaderSize a0 h1 h2 w).mono fun _ _ ⟨he, hn⟩ => ⟨he.trans (by rw [show max 16 a0 = 16 by omega]), hn⟩
theorem implReaderSize_hi (a0 : Int) (h1 : -32768 ≤ a0) (h2 : a0 ≤ 32767) (h : ¬ a0 ≤ 16) (w : World) :
    Calls Try.prog 12 #[.int .i16 a0] w fun e w' => e = .returned (.int .i64 a0) ∧ New w w' :=
  (implReaderSize a0 h1 h2 w).mono fun _ _ ⟨he, hn⟩ => ⟨he.trans (by rw [show max 16 a0 = a0 by omega]), hn⟩
theorem implWriterSize_lo (a0 : Int) (h1 : -32768 ≤ a0) (h2 : a0 ≤ 32767) (h : a0 ≤ 0) (w : World) :
    Calls Try.prog 10 #[.int .i16 a0] w fun e w' => e = .returned (.int .i64 4096) ∧ New w w' :=
  (implWriterSize a0 h1 h2 w).mono fun _ _ ⟨he, hn⟩ => ⟨he.trans (by rw [wsize, if_pos h]), hn⟩
theorem implWriterSize_hi (a0 : Int) (h1 : -32768 ≤ a0) (h2 : a0 ≤ 32767) (h : ¬ a0 ≤ 0) (w : World) :
    Calls Try.prog 10 #[.int .i16 a0] w fun e w' => e = .returned (.int .i64 a0) ∧ New w w' :=
  (implWriterSize a0 h1 h2 w).mono fun _ _ ⟨he, hn⟩ => ⟨he.trans (by rw [wsize, if_neg h]), hn⟩
end Go.Proofs.Ytogihgjejbiiaaa
