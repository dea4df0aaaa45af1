/-
  A slice of integers out of its reading, with how much memory it takes.
-/
import Derived.Test.YtfigpbcmnlkdjaaDoorOpenR
import Derived.SizedLaws
namespace Go.Proofs.YtfigpbcmnlkdjaaDoor
open Go.RowKit Go.ChangeShapes Go.WideShapes Go.Deep

theorem ints_openW {H : Type} {enc : TypeId × Value → H} {W : World} {a0 : Option Addr} {len0 cap0 : Nat} {d : DataW H} {p : List MemPlace}
    (h : DataW.Trod enc Tryd.prog W 0 (fun _ => true) true 24 (.slice a0 len0 cap0) d p) : ∃ l : List Int, (IntsAt W (.slice a0 len0 cap0) l ∧ ∀ z ∈ l, -9223372036854775808 ≤ z ∧ z ≤ 9223372036854775807) ∧ ∀ B, (∀ es sp, d = .slice es sp → (es.length + sp.length) * 8 ≤ B) → l.length * 8 ≤ B := by
  obtain ⟨fuel, hf⟩ := h
  rcases open_ints Tryd.underlying24 Tryd.underlying3 (by kernel_rfl) hf with ⟨hcs, hx⟩ | ⟨a, len, cap, zs, hcs, _, hl, hm, hz, hx, hcell, hwf⟩
  · simp [Value.cells] at hcs
    obtain ⟨rfl, rfl, rfl⟩ := hcs
    simp only [Prod.mk.injEq] at hx
    obtain ⟨rfl, rfl⟩ := hx
    exact ⟨[], ⟨⟨none, 0, rfl, Nat.le_refl _, by unfold maxLen; omega, fun _ => rfl, fun ad e => by cases e⟩, fun z hz => by simp at hz⟩, fun B _ => by simp⟩
  · simp [Value.cells] at hcs
    obtain ⟨rfl, rfl, rfl⟩ := hcs
    simp only [Prod.mk.injEq] at hx
    obtain ⟨rfl, rfl⟩ := hx
    simp at hz
    have hlen : (zs.take len0).length = len0 := by simp; omega
    refine ⟨zs.take len0, ⟨⟨some a, cap0, by rw [intsV_length, hlen], by rw [intsV_length, hlen]; exact hl, hm, (fun e => by cases e), fun ad e j u hu => ?_⟩, fun z hz => bounds_i64 (hwf z (List.mem_of_mem_take hz))⟩, ?_⟩
    · cases e
      simp only [intsV, List.getElem?_map, List.getElem?_take] at hu
      by_cases hj : j < len0
      · rw [if_pos hj] at hu
        rw [hcell j (by omega)]
        rw [List.getElem?_eq_getElem (show j < zs.length by omega)] at hu
        simp at hu
        rw [← hu]
        simp [intV, show j < zs.length by omega]
      · rw [if_neg hj] at hu; simp at hu
    · intro B hB
      have h9 := hB _ _ rfl
      rw [hlen]
      simp [lits] at h9
      omega
end Go.Proofs.YtfigpbcmnlkdjaaDoor
