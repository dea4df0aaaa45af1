/-
  Parts in memory, one by one (where a seat has no exact law: stands for Ex4).
-/
import Derived.Test.YtegbfhfmbjdjiaaDoorWriteAll
import Derived.Test.YtegbfhfmbjdjiaaDoorEqual
namespace Go.Proofs.YtegbfhfmbjdjiaaDoor
open Go.RowKit

theorem PartsAt.at {w : World} {a : Option Addr} {n c : Nat} {ps : List (List UInt8)} (h : PartsAt w (.slice a n c) ps) {k : Nat} (hk : k < ps.length) :
    ∃ b o ap cp, a = some ⟨b, o, none⟩ ∧ w.cell? ⟨b, o + k, none⟩ = some (.slice ap ps[k].length cp) ∧ BytesAt w (.slice ap ps[k].length cp) ps[k] := by
  obtain ⟨pvs, hrow, hpl, hps⟩ := h
  obtain ⟨b, o, e, hcell⟩ := RowAt.one hrow (i := k) (by omega)
  have hu : pvs[k]? = some (pvs[k]'(by omega)) := List.getElem?_eq_getElem (by omega)
  have hup := hps k _ _ hu (List.getElem?_eq_getElem hk)
  obtain ⟨ap, cp, e2, _⟩ := id hup
  rw [bytesV_length] at e2
  refine ⟨b, o, ap, cp, e, ?_, ?_⟩
  · rw [hcell k (by omega), e2]
  · rw [← e2]; exact hup

theorem PartsAt.len {w : World} {v : Value} {ps : List (List UInt8)} (h : PartsAt w v ps) : ∃ a c, v = .slice a ps.length c ∧ ps.length ≤ 9223372036854775807 := by
  obtain ⟨pvs, ⟨a, c, e, h1, h2, _⟩, hpl, _⟩ := h
  rw [hpl] at e h1
  exact ⟨a, c, e, by unfold maxLen at h2; omega⟩
end Go.Proofs.YtegbfhfmbjdjiaaDoor
