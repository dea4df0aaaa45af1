/-
  FullRune and DecodeRune, told by the list of bytes that the slice holds.
-/
import Derived.Test.YtfigpbcmnlkdjaaDoorFullR
namespace Go.Proofs.YtfigpbcmnlkdjaaDoor
open Go.RowKit Go.Shelf

theorem cells_nth {w : World} {b off : Nat} {x : List UInt8} (hc : CellsAt w ⟨b, off, none⟩ (bytesV x)) {j : Nat} (hj : j < x.length) : w.cell? ⟨b, off + j, none⟩ = some (.int .u8 (nth x j : Nat)) := by
  have h := hc j (byteV x[j]) (by unfold bytesV; rw [List.getElem?_map, List.getElem?_eq_getElem hj]; rfl)
  rw [show (⟨b, off, none⟩ : Addr).add j = ⟨b, off + j, none⟩ by unfold Addr.add; split <;> simp_all] at h
  rw [h]
  unfold nth byteV
  rw [List.getD_eq_getElem?_getD, List.getElem?_eq_getElem hj]
  rfl

/-- A beginning of a rune's bytes that is not the whole, or nothing, is not full. -/
theorem full_part (w : World) (hT : Tabs w) (b off n c : Nat) (x : List UInt8) (hl : x.length = n) (hc : CellsAt w ⟨b, off, none⟩ (bytesV x)) (hp : n = 0 ∨ ∃ z, Rune z ∧ n < (runeB z).length ∧ x = (runeB z).take n) :
    Calls Tryd.prog 34 #[.slice (some ⟨b, off, none⟩) n c] w fun e w' => e = .returned (.bool false) ∧ New w w' := by
  rcases Nat.eq_zero_or_pos n with h0 | h0
  · subst h0
    exact (full_empty w _ c).mono fun e w' ⟨h1, h2⟩ => ⟨h1, by rw [h2]; exact Keep.refl _ _⟩
  · rcases hp with e | ⟨z, hz, hlt, hx⟩
    · omega
    · obtain ⟨t1, t2, t3⟩ := rune_tabs hz
      have e0 : nth x 0 = nth (runeB z) 0 := by rw [hx]; exact nth_take _ _ _ h0
      have e1 : 1 < n → nth x 1 = nth (runeB z) 1 := fun h => by rw [hx]; exact nth_take _ _ _ h
      have e2 : 2 < n → nth x 2 = nth (runeB z) 2 := fun h => by rw [hx]; exact nth_take _ _ _ h
      obtain ⟨t4, t5, t6⟩ := t2 (by omega)
      have hc0 := cells_nth hc (j := 0) (by omega)
      rw [Nat.add_zero] at hc0
      refine full_no w hT b off n c (nth x 0) (nth x 1) (nth x 2) (nth_lt _ _) (nth_lt _ _) (nth_lt _ _) h0 (by rw [e0, t4]; exact hlt) hc0 (fun h => ⟨cells_nth hc (by omega), ?_, ?_⟩) (fun h => ⟨cells_nth hc (by omega), ?_, ?_⟩)
      · rw [e0, e1 h]; exact t5
      · rw [e0, e1 h]; exact t6
      · rw [e2 h]; exact (t3 (by omega)).1
      · rw [e2 h]; exact (t3 (by omega)).2

/-- A rune's bytes and what follows are full. -/
theorem full_whole (w : World) (hT : Tabs w) (b off n c : Nat) (x : List UInt8) (hl : x.length = n) (hm : n ≤ 4294967296) (hc : CellsAt w ⟨b, off, none⟩ (bytesV x)) (z : Int) (hz : Rune z) (t : List UInt8) (hx : x = runeB z ++ t) :
    Calls Tryd.prog 34 #[.slice (some ⟨b, off, none⟩) n c] w fun e w' => e = .returned (.bool true) ∧ w' = w := by
  have h1 := runeB_length z
  have h2 : (runeB z).length ≤ n := by rw [← hl, hx, List.length_append]; omega
  obtain ⟨t1, _, _⟩ := rune_tabs hz
  have hc0 := cells_nth hc (j := 0) (by omega)
  rw [Nat.add_zero] at hc0
  have e0 : nth x 0 = nth (runeB z) 0 := by rw [hx]; exact nth_append _ _ _ (by omega)
  exact full_yes w hT b off n c (nth x 0) (nth_lt _ _) (by omega) hm hc0 (by rw [e0]; omega)

theorem New.of_below {w w' : World} (h : Below w.heap.size w w') : New w w' := ⟨h.os, h.tape, h.output, h.size, fun k hk _ => h.block k hk⟩

theorem bytes_get (x : List UInt8) (j : Nat) : ((ByteArray.mk x.toArray).get! j).toNat = nth x j := by
  unfold nth ByteArray.get!
  simp only
  rw [List.getD_eq_getElem?_getD]
  by_cases h : j < x.length
  · simp [h]
  · simp [h]
    rfl

theorem decode_rune (w : World) (hT : Tabs w) (b off n c : Nat) (x : List UInt8) (hl : x.length = n) (hc : CellsAt w ⟨b, off, none⟩ (bytesV x)) (z : Int) (hz : Rune z) (t : List UInt8) (hx : x = runeB z ++ t) (L : Nat) (hL : (runeB z).length = L) :
    Calls Tryd.prog 35 #[.slice (some ⟨b, off, none⟩) n c] w fun e w' => e = .returned (.tuple #[.int .i32 z, .int .i64 L]) ∧ New w w' := by
  have h1 := runeB_length z
  have hs : (ByteArray.mk x.toArray).size = n := by rw [← hl]; rfl
  have hnp : ¬ n = 0 := by rw [← hl, hx, List.length_append]; omega
  have h := Any7.utf8_DecodeRune decLays (ByteArray.mk x.toArray) b off c w hT (fun j hj => by
    rw [bytes_get]
    exact cells_nth hc (by rw [hs] at hj; omega))
  have hd : Lib.decodeGo (ByteArray.mk x.toArray) = (z.toNat, L) := by
    unfold Lib.decodeGo
    rw [hs, if_neg hnp, Lib.decode_at, hs, Nat.sub_zero, bytes_get, bytes_get, bytes_get, bytes_get, ← hl, hx]
    simp only [Nat.zero_add]
    rw [rune_decode hz t, hL]
  rw [hd, hs] at h
  have hz0 : ((z.toNat : Nat) : Int) = z := by unfold Rune at hz; omega
  simp only [hz0] at h
  exact h.mono fun e w' ⟨h2, h3⟩ => ⟨h2, New.of_below h3⟩
end Go.Proofs.YtfigpbcmnlkdjaaDoor
