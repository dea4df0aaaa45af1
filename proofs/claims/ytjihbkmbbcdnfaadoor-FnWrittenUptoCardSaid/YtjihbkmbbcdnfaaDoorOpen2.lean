/-
  More arguments of a law out of their readings: a sink, integers.
-/
import Derived.Test.YtjihbkmbbcdnfaaDoorOpen
namespace Go.Proofs.YtjihbkmbbcdnfaaDoor
open Go.RowKit Go.ChangeShapes Go.WideShapes Go.Deep

theorem array1 {α : Type} {cs : Array α} (h : cs.size = 1) : ∃ c0, cs = #[c0] := by
  obtain ⟨l⟩ := cs
  match l, h with
  | [c0], _ => exact ⟨c0, rfl⟩

theorem sinkShape : (Tryd.prog.underlying 24).bind (fun u => match u with | .struct fs => some (fs.toList.map fun f => (f.type, f.offset)) | _ => none) = some [(3, 0)] := by kernel_rfl

theorem open_sink {H : Type} {enc : TypeId × Value → H} {W : World} {base : Nat} {v : Value} {d : DataW H} {p : List MemPlace} (hv : Value.okWide Tryd.prog W .any base 24 v)
    (h : DataW.Trod enc Tryd.prog W 0 (fun _ => true) true 24 v d p) : ∃ room : Int, v = .agg #[.int .i64 room] ∧ (Lit.int .i64 room).wf = true := by
  cases hu : Tryd.prog.underlying 24 with
  | none => have := sinkShape; rw [hu] at this; cases this
  | some u =>
    have hs := sinkShape
    rw [hu] at hs
    cases u with
    | struct fs =>
      simp at hs
      have hc : Tryd.prog.cellsOf 24 = 1 := by kernel_rfl
      obtain ⟨cs, rfl, hsz⟩ := okWide_struct hu hv
      obtain ⟨c0, rfl⟩ := array1 (hsz.trans hc)
      obtain ⟨fuel, hf⟩ := h
      obtain ⟨xs, n, _, _, _, hlen, hfl⟩ := DataW.trod_struct hu hf
      obtain ⟨l⟩ := fs
      cases l with
      | nil => simp at hs
      | cons f r =>
        simp at hs
        obtain ⟨g, ⟨rfl, rfl⟩, h1, h2⟩ := hs
        have hx : ∃ x, xs[0]? = some x := ⟨_, List.getElem?_eq_getElem (by rw [hlen]; simp)⟩
        obtain ⟨x, hx⟩ := hx
        have h3 := hfl 0 f rfl
        have hci : Tryd.prog.cellsOf 3 = 1 := by kernel_rfl
        rw [hx, h1, h2, hci] at h3
        obtain ⟨m, e1, _, e3⟩ := DataW.trod_int Tryd.underlying3 h3
        simp [Value.cells] at e1
        exact ⟨m, by rw [e1], e3⟩
    | _ => simp at hs

theorem ints_open {H : Type} {enc : TypeId × Value → H} {W : World} {a0 : Option Addr} {len0 cap0 : Nat} {d : DataW H} {p : List MemPlace}
    (h : DataW.Trod enc Tryd.prog W 0 (fun _ => true) true 40 (.slice a0 len0 cap0) d p) : ∃ l : List Int, (IntsAt W (.slice a0 len0 cap0) l ∧ ∀ z ∈ l, -9223372036854775808 ≤ z ∧ z ≤ 9223372036854775807) ∧ l.length + 1 ≤ Rows.uptoBulk d := by
  obtain ⟨fuel, hf⟩ := h
  rcases open_ints Tryd.underlying40 Tryd.underlying3 (by kernel_rfl) hf with ⟨hcs, hx⟩ | ⟨a, len, cap, zs, hcs, _, hl, hm, hz, hx, hcell, hwf⟩
  · simp [Value.cells] at hcs
    obtain ⟨rfl, rfl, rfl⟩ := hcs
    simp only [Prod.mk.injEq] at hx
    obtain ⟨rfl, rfl⟩ := hx
    exact ⟨[], ⟨⟨none, 0, rfl, Nat.le_refl _, by unfold maxLen; omega, fun _ => rfl, fun ad e => by cases e⟩, fun z hz => by simp at hz⟩, by simp [Rows.uptoBulk]⟩
  · simp [Value.cells] at hcs
    obtain ⟨rfl, rfl, rfl⟩ := hcs
    simp only [Prod.mk.injEq] at hx
    obtain ⟨rfl, rfl⟩ := hx
    simp at hz
    have hlen : (zs.take len0).length = len0 := by simp; omega
    refine ⟨zs.take len0, ⟨⟨some a, cap0, by rw [intsV_length, hlen], by rw [intsV_length, hlen]; exact hl, hm, (fun e => by cases e), fun ad e j u hu => ?_⟩, fun z hz => bounds_i64 (hwf z (List.mem_of_mem_take hz))⟩, ?_⟩
    · cases e
      simp only [intsV, List.getElem?_map, List.getElem?_take] at hu
      by_cases hj : j < len0
      · rw [if_pos hj] at hu
        rw [hcell j (by omega)]
        rw [List.getElem?_eq_getElem (show j < zs.length by omega)] at hu
        simp at hu
        rw [← hu]
        simp [intV, show j < zs.length by omega]
      · rw [if_neg hj] at hu; simp at hu
    · simp [Rows.uptoBulk, bulk_lits]
end Go.Proofs.YtjihbkmbbcdnfaaDoor
