/-
  A slice of slices of bytes out of its reading, of a reader's law.
-/
import Derived.Test.YtfigpbcmnlkdjaaDoorOpenR
import Derived.Test.YtfigpbcmnlkdjaaDoorWriteAll
namespace Go.Proofs.YtfigpbcmnlkdjaaDoor
open Go.RowKit Go.ChangeShapes Go.Deep

theorem bulk_row {H : Type} (k : IntKind) (A : Option Addr) (L : Nat) (zs : List Int) (hA : A = none → L = 0) (hL : L ≤ zs.length) : L + 1 ≤ Rows.uptoBulk (H := H) (intRow k A L zs) := by
  cases A with
  | none => simp [intRow, Rows.uptoBulk, hA rfl]
  | some a => simp [intRow, Rows.uptoBulk, bulk_lits]; omega

theorem joined_cons (x : List UInt8) (r : List (List UInt8)) : joined (x :: r) = x ++ joined r := by simp [joined]

theorem bulk_rows {H : Type} (len : Nat) (f : Nat → DataW H) (g : Nat → List UInt8) (h : ∀ r, r < len → (g r).length + 1 ≤ Rows.uptoBulk (f r)) :
    (joined ((List.range len).map g)).length + len ≤ Rows.uptoBulkAll ((List.range len).map f) := by
  have : ∀ l : List Nat, (∀ r ∈ l, (g r).length + 1 ≤ Rows.uptoBulk (f r)) → (joined (l.map g)).length + l.length ≤ Rows.uptoBulkAll (l.map f) := by
    intro l
    induction l with
    | nil => intro _; simp [joined, Rows.uptoBulkAll]
    | cons x r ih =>
      intro hl
      have h1 := hl x (by simp)
      have h2 := ih (fun y hy => hl y (by simp [hy]))
      simp only [List.map_cons, joined_cons, Rows.uptoBulkAll, List.length_append, List.length_cons]
      omega
  have h2 := this (List.range len) (fun r hr => h r (List.mem_range.1 hr))
  simpa using h2

theorem parts_open {H : Type} {enc : TypeId × Value → H} {W : World} {a0 : Option Addr} {len0 cap0 : Nat} {d : DataW H} {p : List MemPlace}
    (h : DataW.Trod enc Tryd.prog W 0 (fun _ => true) true 40 (.slice a0 len0 cap0) d p) : ∃ ps, PartsAt W (.slice a0 len0 cap0) ps ∧ (joined ps).length + ps.length + 1 ≤ Rows.uptoBulk d := by
  obtain ⟨fuel, hf⟩ := h
  rcases open_int_rows Tryd.underlying40 Tryd.underlying23 Tryd.underlying5 (by kernel_rfl) (by kernel_rfl) hf with ⟨hcs, hx⟩ | ⟨a, len, cap, A, L, C, Z, hcs, _, hl, hm, hx, hrow⟩
  · simp [Value.cells] at hcs
    obtain ⟨rfl, rfl, rfl⟩ := hcs
    simp only [Prod.mk.injEq] at hx
    obtain ⟨rfl, rfl⟩ := hx
    refine ⟨[], ⟨[], ⟨none, 0, rfl, Nat.le_refl _, by unfold maxLen; omega, fun _ => rfl, fun ad e => by cases e⟩, rfl, fun j u p hu _ => by simp at hu⟩, by simp [joined, Rows.uptoBulk]⟩
  · simp [Value.cells] at hcs
    obtain ⟨rfl, rfl, rfl⟩ := hcs
    simp only [Prod.mk.injEq] at hx
    obtain ⟨rfl, rfl⟩ := hx
    refine ⟨(List.range len0).map fun r => bytesOf (Z r) (L r), ⟨(List.range len0).map fun r => .slice (A r) (L r) (C r), ⟨some a, cap0, by simp, by simpa using hl, hm, (fun e => by cases e), fun ad e j u hu => ?_⟩, by simp, fun j u q hu hq => ?_⟩, ?_⟩
    · cases e
      simp only [List.getElem?_map] at hu
      by_cases hj : j < len0
      · simp [hj] at hu
        rw [← hu]
        exact (hrow j (by omega)).1
      · rw [List.getElem?_eq_none (by simp; omega)] at hu; simp at hu
    · by_cases hj : j < len0
      · simp [hj] at hu hq
        subst hu hq
        obtain ⟨_, r1, r2, r3, r4, r5, r6⟩ := hrow j (by omega)
        have hbl : (bytesOf (Z j) (L j)).length = L j := bytesOf_length (by omega)
        refine ⟨A j, C j, by rw [bytesV_length, hbl], by rw [bytesV_length, hbl]; exact r1, r2, r5, fun ad e i u hu => ?_⟩
        obtain ⟨hi, rfl⟩ := bytesOf_at r4 hu
        exact (r6 ad e).2 i (by omega)
      · rw [List.getElem?_eq_none (by simp; omega)] at hu; simp at hu
    · have := bulk_rows len0 (fun r => intRow (H := H) .u8 (A r) (L r) (Z r)) (fun r => bytesOf (Z r) (L r)) (fun r hr => by
        obtain ⟨_, r1, _, r3, _, r5, _⟩ := hrow r (by omega)
        simp only [bytesOf_length (show L r ≤ (Z r).length by omega)]
        exact bulk_row _ _ _ _ (fun e => by have := r5 e; omega) (by omega))
      simp only [Rows.uptoBulk, List.length_map, List.length_range]
      omega
end Go.Proofs.YtfigpbcmnlkdjaaDoor
