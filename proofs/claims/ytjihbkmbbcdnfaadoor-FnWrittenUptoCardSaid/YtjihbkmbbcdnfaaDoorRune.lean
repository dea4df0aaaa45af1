/-
  The bytes of a rune, and the walks of EncodeRune.
-/
import Derived.Test.YtjihbkmbbcdnfaaDoorWStr
import Derived.Lib.RuneBytes
import Derived.Laws.IdiomCopy
namespace Go.Proofs.YtjihbkmbbcdnfaaDoor
open Go.RowKit

set_option maxHeartbeats 4000000 in
set_option maxRecDepth 100000 in
theorem encNA_neg (b off len cap : Nat) (r : Int) (h0 : -2147483648 ≤ r) (h1 : r < 0) (w : World) (hl : 3 ≤ len)
    (hc : ∀ j, j < 3 → (w.cell? ⟨b, off + j, none⟩).isSome = true) (hf : ∀ j, j < 3 → w.frozen? ⟨b, off + j, none⟩ = false) :
    Calls Tryd.prog 58 #[.slice (some ⟨b, off, none⟩) len cap, .int .i32 r] w fun e w' => e = .returned (.int .i64 3) ∧ w' = w.setCells b off [.int .u8 239, .int .u8 191, .int .u8 189] := by
  obtain ⟨c0, hc0⟩ := Option.isSome_iff_exists.1 (hc 0 (by omega)); have hf0 := hf 0 (by omega)
  obtain ⟨c1, hc1⟩ := Option.isSome_iff_exists.1 (hc 1 (by omega)); have hf1 := hf 1 (by omega)
  obtain ⟨c2, hc2⟩ := Option.isSome_iff_exists.1 (hc 2 (by omega)); have hf2 := hf 2 (by omega)
  simp only [Nat.add_zero] at hc0 hf0
  clear hc hf
  go_enter Tryd.func58, Tryd.ntmps58
  go_wp2
  go_ret
  exact ⟨rfl, rfl⟩

set_option maxHeartbeats 4000000 in
set_option maxRecDepth 100000 in
theorem encNA_two (b off len cap : Nat) (r : Int) (h0 : 128 ≤ r) (h1 : r ≤ 2047) (w : World) (hl : 2 ≤ len)
    (hc : ∀ j, j < 2 → (w.cell? ⟨b, off + j, none⟩).isSome = true) (hf : ∀ j, j < 2 → w.frozen? ⟨b, off + j, none⟩ = false) :
    Calls Tryd.prog 58 #[.slice (some ⟨b, off, none⟩) len cap, .int .i32 r] w fun e w' => e = .returned (.int .i64 2) ∧ w' = w.setCells b off [.int .u8 (192 + r / 64), .int .u8 (128 + r % 64)] := by
  obtain ⟨c0, hc0⟩ := Option.isSome_iff_exists.1 (hc 0 (by omega)); have hf0 := hf 0 (by omega)
  obtain ⟨c1, hc1⟩ := Option.isSome_iff_exists.1 (hc 1 (by omega)); have hf1 := hf 1 (by omega)
  simp only [Nat.add_zero] at hc0 hf0
  clear hc hf
  go_enter Tryd.func58, Tryd.ntmps58
  go_wp2
  go_ret
  exact ⟨rfl, rfl⟩

set_option maxHeartbeats 4000000 in
set_option maxRecDepth 100000 in
theorem encNA_lo (b off len cap : Nat) (r : Int) (h0 : 2048 ≤ r) (h1 : r < 55296) (w : World) (hl : 3 ≤ len)
    (hc : ∀ j, j < 3 → (w.cell? ⟨b, off + j, none⟩).isSome = true) (hf : ∀ j, j < 3 → w.frozen? ⟨b, off + j, none⟩ = false) :
    Calls Tryd.prog 58 #[.slice (some ⟨b, off, none⟩) len cap, .int .i32 r] w fun e w' => e = .returned (.int .i64 3) ∧ w' = w.setCells b off [.int .u8 (224 + r / 4096), .int .u8 (128 + r / 64 % 64), .int .u8 (128 + r % 64)] := by
  obtain ⟨c0, hc0⟩ := Option.isSome_iff_exists.1 (hc 0 (by omega)); have hf0 := hf 0 (by omega)
  obtain ⟨c1, hc1⟩ := Option.isSome_iff_exists.1 (hc 1 (by omega)); have hf1 := hf 1 (by omega)
  obtain ⟨c2, hc2⟩ := Option.isSome_iff_exists.1 (hc 2 (by omega)); have hf2 := hf 2 (by omega)
  simp only [Nat.add_zero] at hc0 hf0
  clear hc hf
  go_enter Tryd.func58, Tryd.ntmps58
  go_wp2
  go_ret
  exact ⟨rfl, rfl⟩

set_option maxHeartbeats 4000000 in
set_option maxRecDepth 100000 in
theorem encNA_sur (b off len cap : Nat) (r : Int) (h0 : 55296 ≤ r) (h1 : r ≤ 57343) (w : World) (hl : 3 ≤ len)
    (hc : ∀ j, j < 3 → (w.cell? ⟨b, off + j, none⟩).isSome = true) (hf : ∀ j, j < 3 → w.frozen? ⟨b, off + j, none⟩ = false) :
    Calls Tryd.prog 58 #[.slice (some ⟨b, off, none⟩) len cap, .int .i32 r] w fun e w' => e = .returned (.int .i64 3) ∧ w' = w.setCells b off [.int .u8 239, .int .u8 191, .int .u8 189] := by
  obtain ⟨c0, hc0⟩ := Option.isSome_iff_exists.1 (hc 0 (by omega)); have hf0 := hf 0 (by omega)
  obtain ⟨c1, hc1⟩ := Option.isSome_iff_exists.1 (hc 1 (by omega)); have hf1 := hf 1 (by omega)
  obtain ⟨c2, hc2⟩ := Option.isSome_iff_exists.1 (hc 2 (by omega)); have hf2 := hf 2 (by omega)
  simp only [Nat.add_zero] at hc0 hf0
  clear hc hf
  go_enter Tryd.func58, Tryd.ntmps58
  go_wp2
  go_ret
  exact ⟨rfl, rfl⟩

set_option maxHeartbeats 4000000 in
set_option maxRecDepth 100000 in
theorem encNA_hi (b off len cap : Nat) (r : Int) (h0 : 57343 < r) (h1 : r ≤ 65535) (w : World) (hl : 3 ≤ len)
    (hc : ∀ j, j < 3 → (w.cell? ⟨b, off + j, none⟩).isSome = true) (hf : ∀ j, j < 3 → w.frozen? ⟨b, off + j, none⟩ = false) :
    Calls Tryd.prog 58 #[.slice (some ⟨b, off, none⟩) len cap, .int .i32 r] w fun e w' => e = .returned (.int .i64 3) ∧ w' = w.setCells b off [.int .u8 (224 + r / 4096), .int .u8 (128 + r / 64 % 64), .int .u8 (128 + r % 64)] := by
  obtain ⟨c0, hc0⟩ := Option.isSome_iff_exists.1 (hc 0 (by omega)); have hf0 := hf 0 (by omega)
  obtain ⟨c1, hc1⟩ := Option.isSome_iff_exists.1 (hc 1 (by omega)); have hf1 := hf 1 (by omega)
  obtain ⟨c2, hc2⟩ := Option.isSome_iff_exists.1 (hc 2 (by omega)); have hf2 := hf 2 (by omega)
  simp only [Nat.add_zero] at hc0 hf0
  clear hc hf
  go_enter Tryd.func58, Tryd.ntmps58
  go_wp2
  go_ret
  exact ⟨rfl, rfl⟩

set_option maxHeartbeats 4000000 in
set_option maxRecDepth 100000 in
theorem encNA_four (b off len cap : Nat) (r : Int) (h0 : 65536 ≤ r) (h1 : r ≤ 1114111) (w : World) (hl : 4 ≤ len)
    (hc : ∀ j, j < 4 → (w.cell? ⟨b, off + j, none⟩).isSome = true) (hf : ∀ j, j < 4 → w.frozen? ⟨b, off + j, none⟩ = false) :
    Calls Tryd.prog 58 #[.slice (some ⟨b, off, none⟩) len cap, .int .i32 r] w fun e w' => e = .returned (.int .i64 4) ∧ w' = w.setCells b off [.int .u8 (240 + r / 262144), .int .u8 (128 + r / 4096 % 64), .int .u8 (128 + r / 64 % 64), .int .u8 (128 + r % 64)] := by
  obtain ⟨c0, hc0⟩ := Option.isSome_iff_exists.1 (hc 0 (by omega)); have hf0 := hf 0 (by omega)
  obtain ⟨c1, hc1⟩ := Option.isSome_iff_exists.1 (hc 1 (by omega)); have hf1 := hf 1 (by omega)
  obtain ⟨c2, hc2⟩ := Option.isSome_iff_exists.1 (hc 2 (by omega)); have hf2 := hf 2 (by omega)
  obtain ⟨c3, hc3⟩ := Option.isSome_iff_exists.1 (hc 3 (by omega)); have hf3 := hf 3 (by omega)
  simp only [Nat.add_zero] at hc0 hf0
  clear hc hf
  go_enter Tryd.func58, Tryd.ntmps58
  go_wp2
  go_ret
  exact ⟨rfl, rfl⟩

set_option maxHeartbeats 4000000 in
set_option maxRecDepth 100000 in
theorem encNA_big (b off len cap : Nat) (r : Int) (h0 : 1114111 < r) (h1 : r ≤ 2147483647) (w : World) (hl : 3 ≤ len)
    (hc : ∀ j, j < 3 → (w.cell? ⟨b, off + j, none⟩).isSome = true) (hf : ∀ j, j < 3 → w.frozen? ⟨b, off + j, none⟩ = false) :
    Calls Tryd.prog 58 #[.slice (some ⟨b, off, none⟩) len cap, .int .i32 r] w fun e w' => e = .returned (.int .i64 3) ∧ w' = w.setCells b off [.int .u8 239, .int .u8 191, .int .u8 189] := by
  obtain ⟨c0, hc0⟩ := Option.isSome_iff_exists.1 (hc 0 (by omega)); have hf0 := hf 0 (by omega)
  obtain ⟨c1, hc1⟩ := Option.isSome_iff_exists.1 (hc 1 (by omega)); have hf1 := hf 1 (by omega)
  obtain ⟨c2, hc2⟩ := Option.isSome_iff_exists.1 (hc 2 (by omega)); have hf2 := hf 2 (by omega)
  simp only [Nat.add_zero] at hc0 hf0
  clear hc hf
  go_enter Tryd.func58, Tryd.ntmps58
  go_wp2
  go_ret
  exact ⟨rfl, rfl⟩

theorem runeCells_of {r : Int} {l : List Int} (h : Lib.encodeRuneZ r = l) : Lib.runeCells r = l.map fun x => Value.int .u8 x := by rw [Lib.runeCells, h]

theorem encNA (b off len cap : Nat) (r : Int) (hlo : -2147483648 ≤ r) (hhi : r ≤ 2147483647) (hna : r < 0 ∨ 128 ≤ r) (w : World) (hl : (Lib.runeCells r).length ≤ len)
    (hc : ∀ j, j < (Lib.runeCells r).length → (w.cell? ⟨b, off + j, none⟩).isSome = true) (hf : ∀ j, j < (Lib.runeCells r).length → w.frozen? ⟨b, off + j, none⟩ = false) :
    Calls Tryd.prog 58 #[.slice (some ⟨b, off, none⟩) len cap, .int .i32 r] w fun e w' => e = .returned (.int .i64 (Lib.runeCells r).length) ∧ w' = w.setCells b off (Lib.runeCells r) := by
  by_cases n0 : r < 0
  · have e := runeCells_of (Lib.encodeRuneZ_bad (Or.inl n0))
    rw [e] at hl hc hf ⊢
    exact encNA_neg b off len cap r hlo n0 w hl hc hf
  by_cases n1 : r ≤ 2047
  · have e := runeCells_of (Lib.encodeRuneZ_two (by omega) n1)
    rw [e] at hl hc hf ⊢
    exact encNA_two b off len cap r (by omega) n1 w hl hc hf
  by_cases n2 : r < 55296
  · have e := runeCells_of (Lib.encodeRuneZ_three (Or.inl ⟨by omega, n2⟩))
    rw [e] at hl hc hf ⊢
    exact encNA_lo b off len cap r (by omega) n2 w hl hc hf
  by_cases n3 : r ≤ 57343
  · have e := runeCells_of (Lib.encodeRuneZ_bad (Or.inr (Or.inl ⟨by omega, n3⟩)))
    rw [e] at hl hc hf ⊢
    exact encNA_sur b off len cap r (by omega) n3 w hl hc hf
  by_cases n4 : r ≤ 65535
  · have e := runeCells_of (Lib.encodeRuneZ_three (Or.inr ⟨by omega, n4⟩))
    rw [e] at hl hc hf ⊢
    exact encNA_hi b off len cap r (by omega) n4 w hl hc hf
  by_cases n5 : r ≤ 1114111
  · have e := runeCells_of (Lib.encodeRuneZ_four (by omega) n5)
    rw [e] at hl hc hf ⊢
    exact encNA_four b off len cap r (by omega) n5 w hl hc hf
  · have e := runeCells_of (Lib.encodeRuneZ_bad (r := r) (Or.inr (Or.inr (by omega))))
    rw [e] at hl hc hf ⊢
    exact encNA_big b off len cap r (by omega) hhi w hl hc hf

theorem wrap_u32_big (r : Int) (hlo : -2147483648 ≤ r) (hhi : r ≤ 2147483647) (hna : r < 0 ∨ 128 ≤ r) : ¬ (IntKind.u32.wrap r ≤ 127) := by
  have e : IntKind.u32.wrap r = r % 4294967296 := by simp [IntKind.wrap, IntKind.bits, IntKind.signed]
  rw [e]
  omega

/-- EncodeRune beyond ASCII. -/
theorem encodeRune_na (b off len cap : Nat) (r : Int) (hlo : -2147483648 ≤ r) (hhi : r ≤ 2147483647) (hna : r < 0 ∨ 128 ≤ r) (w : World) (hl : (Lib.runeCells r).length ≤ len)
    (hc : ∀ j, j < (Lib.runeCells r).length → (w.cell? ⟨b, off + j, none⟩).isSome = true) (hf : ∀ j, j < (Lib.runeCells r).length → w.frozen? ⟨b, off + j, none⟩ = false) :
    Calls Tryd.prog 56 #[.slice (some ⟨b, off, none⟩) len cap, .int .i32 r] w fun e w' => e = .returned (.int .i64 (Lib.runeCells r).length) ∧ w' = w.setCells b off (Lib.runeCells r) := by
  have H := Lib.hid (encNA b off len cap r hlo hhi hna w hl hc hf)
  clear hl hc hf
  go_enter Tryd.func56, Tryd.ntmps56
  rcases hna with hn | hn
  · go_wp2_with (go_at_call 58; refine H.out.mono ?_; rintro e w' ⟨rfl, rfl⟩)
    go_ret
    exact ⟨rfl, rfl⟩
  · go_wp2_with (go_at_call 58; refine H.out.mono ?_; rintro e w' ⟨rfl, rfl⟩)
    go_ret
    exact ⟨rfl, rfl⟩

/-- The bytes of a rune. -/
def runeB (r : Int) : List UInt8 := Lib.encodeRune r
theorem runeB_cells (r : Int) : bytesV (runeB r) = Lib.runeCells r := Lib.byteCells_encodeRune r
theorem runeB_length (r : Int) : 1 ≤ (runeB r).length ∧ (runeB r).length ≤ 4 := by
  have := Lib.runeCells_le r
  rw [Lib.runeCells_length] at this
  exact this

/-- string(r) is the same bytes. -/
theorem encode_runeB (r : Int) : (Utf8.encode r).data.toList = runeB r := by
  have hv : Utf8.valid r = true ↔ (0 ≤ r ∧ r < 55296) ∨ (57344 ≤ r ∧ r ≤ 1114111) := by simp [Utf8.valid]
  unfold runeB Lib.encodeRune
  by_cases h : (0 ≤ r ∧ r < 55296) ∨ (57344 ≤ r ∧ r ≤ 1114111)
  · have hr : ((r.toNat : Nat) : Int) = r := by omega
    obtain ⟨n, rfl⟩ : ∃ n : Nat, r = n := ⟨r.toNat, by omega⟩
    have hval := hv.2 h
    simp only [Utf8.encode, hval, if_true, Int.toNat_natCast]
    by_cases h1 : n < 128
    · rw [if_pos h1, Lib.encodeRuneZ_one (by omega) (by omega)]
      simp
    · rw [if_neg h1]
      by_cases h2 : n < 2048
      · rw [if_pos h2, Lib.encodeRuneZ_two (by omega) (by omega)]
        have e1 : (192 + (n : Int) / 64).toNat = 192 + n / 64 := by omega
        have e2 : (128 + (n : Int) % 64).toNat = 128 + n % 64 := by omega
        simp only [List.map, e1, e2]
      · rw [if_neg h2]
        by_cases h3 : n < 65536
        · rw [if_pos h3, Lib.encodeRuneZ_three (by omega)]
          have e1 : (224 + (n : Int) / 4096).toNat = 224 + n / 4096 := by omega
          have e2 : (128 + (n : Int) / 64 % 64).toNat = 128 + n / 64 % 64 := by omega
          have e3 : (128 + (n : Int) % 64).toNat = 128 + n % 64 := by omega
          simp only [List.map, e1, e2, e3]
        · rw [if_neg h3, Lib.encodeRuneZ_four (by omega) (by omega)]
          have e1 : (240 + (n : Int) / 262144).toNat = 240 + n / 262144 := by omega
          have e2 : (128 + (n : Int) / 4096 % 64).toNat = 128 + n / 4096 % 64 := by omega
          have e3 : (128 + (n : Int) / 64 % 64).toNat = 128 + n / 64 % 64 := by omega
          have e4 : (128 + (n : Int) % 64).toNat = 128 + n % 64 := by omega
          simp only [List.map, e1, e2, e3, e4]
  · have hval : Utf8.valid r = false := by
      cases hx : Utf8.valid r with
      | false => rfl
      | true => exact absurd (hv.1 hx) h
    rw [Lib.encodeRuneZ_bad (by omega)]
    simp only [Utf8.encode, hval, Bool.false_eq_true, if_false]
    rfl

theorem setCells_facts (g : Nat) (t : TypeId) : ∀ (vs : List Value) (o : Nat) (w : World) (cs : List Value), w.heap[g]? = some (.cells cs.toArray t (0, 0)) → o + vs.length ≤ cs.length →
    (w.setCells g o vs).heap[g]? = some (.cells (splice cs o vs).toArray t (0, 0)) ∧ Keep (fun k => k = g) w (w.setCells g o vs)
  | [], o, w, cs, h, _ => ⟨by simpa [World.setCells, splice] using h, Keep.refl _ _⟩
  | v :: r, o, w, cs, h, hl => by
    have hl' : o + (r.length + 1) ≤ cs.length := hl
    have h1 := heap_set (o := o) h v
    have h1' : (w.setCell ⟨g, o, none⟩ v).heap[g]? = some (.cells (cs.set o v).toArray t (0, 0)) := h1.trans (by simp)
    obtain ⟨h2, h3⟩ := setCells_facts g t r (o + 1) (w.setCell ⟨g, o, none⟩ v) (cs.set o v) h1' (by simp; omega)
    refine ⟨?_, ((Keep.refl _ w).set1 o v).trans h3 (fun _ _ e => e)⟩
    show ((w.setCell ⟨g, o, none⟩ v).setCells g (o + 1) r).heap[g]? = _
    rw [h2]
    congr 3
    unfold splice
    rw [take_set_succ (by omega)]
    have e1 : (cs.set o v).drop (o + 1 + r.length) = cs.drop (o + (v :: r).length) := by
      rw [List.drop_set_of_lt (by omega)]
      congr 1
      simp; omega
    rw [e1]
    simp

/-- EncodeRune beyond ASCII, into a block that is known whole. -/
theorem encodeRune_at (bb off len cap : Nat) (r : Int) (hlo : -2147483648 ≤ r) (hhi : r ≤ 2147483647) (hna : r < 0 ∨ 128 ≤ r) (w : World) (cs : List Value) (hb : w.heap[bb]? = some (.cells cs.toArray 5 (0, 0))) (hl : (runeB r).length ≤ len) (hfit : off + (runeB r).length ≤ cs.length) :
    Calls Tryd.prog 56 #[.slice (some ⟨bb, off, none⟩) len cap, .int .i32 r] w fun e w' => e = .returned (.int .i64 (runeB r).length) ∧
      Hid (w'.heap[bb]? = some (.cells (splice cs off (bytesV (runeB r))).toArray 5 (0, 0))) ∧ Keep (fun k => k = bb) w w' := by
  have e : (Lib.runeCells r).length = (runeB r).length := Lib.runeCells_length r
  refine (encodeRune_na bb off len cap r hlo hhi hna w (by rw [e]; exact hl) (fun j hj => ?_) (fun j hj => frozen_of hb)).mono fun e' w' ⟨h1, h2⟩ => ?_
  · rw [cell_of hb (v := cs[off + j]'(by omega)) (by simp)]
    rfl
  · subst h2
    have := setCells_facts bb 5 (bytesV (runeB r)) off w cs hb (by rw [bytesV_length]; exact hfit)
    rw [runeB_cells] at this
    refine ⟨by rw [h1, e], ?_, this.2⟩
    rw [runeB_cells]
    exact this.1
end Go.Proofs.YtjihbkmbbcdnfaaDoor
