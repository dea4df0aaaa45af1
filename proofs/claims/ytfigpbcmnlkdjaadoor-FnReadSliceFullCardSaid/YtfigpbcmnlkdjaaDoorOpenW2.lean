/-
  A slice of bytes out of its reading, with how much memory it takes.
-/
import Derived.Test.YtfigpbcmnlkdjaaDoorOpenW
namespace Go.Proofs.YtfigpbcmnlkdjaaDoor
open Go.RowKit Go.ChangeShapes Go.WideShapes Go.Deep

theorem bytes_openW {H : Type} {enc : TypeId × Value → H} {W : World} {a0 : Option Addr} {len0 cap0 : Nat} {d : DataW H} {p : List MemPlace}
    (h : DataW.Trod enc Tryd.prog W 0 (fun _ => true) true 23 (.slice a0 len0 cap0) d p) : ∃ l : List UInt8, BytesAt W (.slice a0 len0 cap0) l ∧ ∀ B, (∀ es sp, d = .slice es sp → (es.length + sp.length) * 1 ≤ B) → l.length ≤ B := by
  obtain ⟨fuel, hf⟩ := h
  rcases open_ints Tryd.underlying23 Tryd.underlying5 (by kernel_rfl) hf with ⟨hcs, hx⟩ | ⟨a, len, cap, zs, hcs, _, hl, hm, hz, hx, hcell, hwf⟩
  · simp [Value.cells] at hcs
    obtain ⟨rfl, rfl, rfl⟩ := hcs
    simp only [Prod.mk.injEq] at hx
    obtain ⟨rfl, rfl⟩ := hx
    exact ⟨[], ⟨none, 0, rfl, Nat.le_refl _, by unfold maxLen; omega, fun _ => rfl, fun ad e => by cases e⟩, fun B _ => by simp⟩
  · simp [Value.cells] at hcs
    obtain ⟨rfl, rfl, rfl⟩ := hcs
    simp only [Prod.mk.injEq] at hx
    obtain ⟨rfl, rfl⟩ := hx
    simp at hz
    have hlen : (bytesOf zs len0).length = len0 := bytesOf_length (by omega)
    refine ⟨bytesOf zs len0, ⟨some a, cap0, by rw [bytesV_length, hlen], by rw [bytesV_length, hlen]; exact hl, hm, (fun e => by cases e), fun ad e j u hu => ?_⟩, ?_⟩
    · cases e
      obtain ⟨hj, rfl⟩ := bytesOf_at hwf hu
      rw [hcell j (by omega)]
    · intro B hB
      have h9 := hB _ _ rfl
      rw [hlen]
      simp [lits] at h9
      omega
end Go.Proofs.YtfigpbcmnlkdjaaDoor
