/-
  The documentation's own encoded and Encoded: the bytes of a rune in a new row.
-/
import Derived.Test.YtegbfhfmbjdjiaaDoorEnc
import Derived.Test.YtegbfhfmbjdjiaaDoorEqual
namespace Go.Proofs.YtegbfhfmbjdjiaaDoor
open Go.RowKit

set_option maxHeartbeats 4000000 in
set_option maxRecDepth 100000 in
theorem senc_one (r : Int) (h0 : 0 ≤ r) (h1 : r < 128) (w : World) :
    Calls Tryd.prog 34 #[.int .i32 r] w fun e w' => e = .returned (.slice (some ⟨w.heap.size, 0, none⟩) 1 1) ∧ w' = w.alloc (.cells ([.int .u8 r] : List Value).toArray 5) := by
  have d1 : r.tdiv 64 = r / 64 := Int.tdiv_eq_ediv_of_nonneg (by omega)
  have d2 : r.tdiv 4096 = r / 4096 := Int.tdiv_eq_ediv_of_nonneg (by omega)
  have d3 : r.tdiv 262144 = r / 262144 := Int.tdiv_eq_ediv_of_nonneg (by omega)
  have m1 : r.tmod 64 = r % 64 := Int.tmod_eq_emod_of_nonneg (by omega)
  have m2 : (r / 64).tmod 64 = r / 64 % 64 := Int.tmod_eq_emod_of_nonneg (by omega)
  have m3 : (r / 4096).tmod 64 = r / 4096 % 64 := Int.tmod_eq_emod_of_nonneg (by omega)
  go_enter Tryd.func34, Tryd.ntmps34
  go_wp2
  go_ret
  exact ⟨rfl, by first | rfl | (simp (disch := omega) only [lt256])⟩

set_option maxHeartbeats 4000000 in
set_option maxRecDepth 100000 in
theorem senc_two (r : Int) (h0 : 128 ≤ r) (h1 : r ≤ 2047) (w : World) :
    Calls Tryd.prog 34 #[.int .i32 r] w fun e w' => e = .returned (.slice (some ⟨w.heap.size, 0, none⟩) 2 2) ∧ w' = w.alloc (.cells ([.int .u8 (192 + r / 64), .int .u8 (128 + r % 64)] : List Value).toArray 5) := by
  have d1 : r.tdiv 64 = r / 64 := Int.tdiv_eq_ediv_of_nonneg (by omega)
  have d2 : r.tdiv 4096 = r / 4096 := Int.tdiv_eq_ediv_of_nonneg (by omega)
  have d3 : r.tdiv 262144 = r / 262144 := Int.tdiv_eq_ediv_of_nonneg (by omega)
  have m1 : r.tmod 64 = r % 64 := Int.tmod_eq_emod_of_nonneg (by omega)
  have m2 : (r / 64).tmod 64 = r / 64 % 64 := Int.tmod_eq_emod_of_nonneg (by omega)
  have m3 : (r / 4096).tmod 64 = r / 4096 % 64 := Int.tmod_eq_emod_of_nonneg (by omega)
  go_enter Tryd.func34, Tryd.ntmps34
  go_wp2
  go_ret
  exact ⟨rfl, by first | rfl | (simp (disch := omega) only [lt256])⟩

set_option maxHeartbeats 4000000 in
set_option maxRecDepth 100000 in
theorem senc_lo (r : Int) (h0 : 2048 ≤ r) (h1 : r < 55296) (w : World) :
    Calls Tryd.prog 34 #[.int .i32 r] w fun e w' => e = .returned (.slice (some ⟨w.heap.size, 0, none⟩) 3 3) ∧ w' = w.alloc (.cells ([.int .u8 (224 + r / 4096), .int .u8 (128 + r / 64 % 64), .int .u8 (128 + r % 64)] : List Value).toArray 5) := by
  have d1 : r.tdiv 64 = r / 64 := Int.tdiv_eq_ediv_of_nonneg (by omega)
  have d2 : r.tdiv 4096 = r / 4096 := Int.tdiv_eq_ediv_of_nonneg (by omega)
  have d3 : r.tdiv 262144 = r / 262144 := Int.tdiv_eq_ediv_of_nonneg (by omega)
  have m1 : r.tmod 64 = r % 64 := Int.tmod_eq_emod_of_nonneg (by omega)
  have m2 : (r / 64).tmod 64 = r / 64 % 64 := Int.tmod_eq_emod_of_nonneg (by omega)
  have m3 : (r / 4096).tmod 64 = r / 4096 % 64 := Int.tmod_eq_emod_of_nonneg (by omega)
  go_enter Tryd.func34, Tryd.ntmps34
  go_wp2
  go_ret
  exact ⟨rfl, by first | rfl | (simp (disch := omega) only [lt256])⟩

set_option maxHeartbeats 4000000 in
set_option maxRecDepth 100000 in
theorem senc_hi (r : Int) (h0 : 57343 < r) (h1 : r ≤ 65535) (w : World) :
    Calls Tryd.prog 34 #[.int .i32 r] w fun e w' => e = .returned (.slice (some ⟨w.heap.size, 0, none⟩) 3 3) ∧ w' = w.alloc (.cells ([.int .u8 (224 + r / 4096), .int .u8 (128 + r / 64 % 64), .int .u8 (128 + r % 64)] : List Value).toArray 5) := by
  have d1 : r.tdiv 64 = r / 64 := Int.tdiv_eq_ediv_of_nonneg (by omega)
  have d2 : r.tdiv 4096 = r / 4096 := Int.tdiv_eq_ediv_of_nonneg (by omega)
  have d3 : r.tdiv 262144 = r / 262144 := Int.tdiv_eq_ediv_of_nonneg (by omega)
  have m1 : r.tmod 64 = r % 64 := Int.tmod_eq_emod_of_nonneg (by omega)
  have m2 : (r / 64).tmod 64 = r / 64 % 64 := Int.tmod_eq_emod_of_nonneg (by omega)
  have m3 : (r / 4096).tmod 64 = r / 4096 % 64 := Int.tmod_eq_emod_of_nonneg (by omega)
  go_enter Tryd.func34, Tryd.ntmps34
  go_wp2
  go_ret
  exact ⟨rfl, by first | rfl | (simp (disch := omega) only [lt256])⟩

set_option maxHeartbeats 4000000 in
set_option maxRecDepth 100000 in
theorem senc_four (r : Int) (h0 : 65536 ≤ r) (h1 : r ≤ 1114111) (w : World) :
    Calls Tryd.prog 34 #[.int .i32 r] w fun e w' => e = .returned (.slice (some ⟨w.heap.size, 0, none⟩) 4 4) ∧ w' = w.alloc (.cells ([.int .u8 (240 + r / 262144), .int .u8 (128 + r / 4096 % 64), .int .u8 (128 + r / 64 % 64), .int .u8 (128 + r % 64)] : List Value).toArray 5) := by
  have d1 : r.tdiv 64 = r / 64 := Int.tdiv_eq_ediv_of_nonneg (by omega)
  have d2 : r.tdiv 4096 = r / 4096 := Int.tdiv_eq_ediv_of_nonneg (by omega)
  have d3 : r.tdiv 262144 = r / 262144 := Int.tdiv_eq_ediv_of_nonneg (by omega)
  have m1 : r.tmod 64 = r % 64 := Int.tmod_eq_emod_of_nonneg (by omega)
  have m2 : (r / 64).tmod 64 = r / 64 % 64 := Int.tmod_eq_emod_of_nonneg (by omega)
  have m3 : (r / 4096).tmod 64 = r / 4096 % 64 := Int.tmod_eq_emod_of_nonneg (by omega)
  go_enter Tryd.func34, Tryd.ntmps34
  go_wp2
  go_ret
  exact ⟨rfl, by first | rfl | (simp (disch := omega) only [lt256])⟩

set_option maxHeartbeats 4000000 in
set_option maxRecDepth 100000 in
theorem senc_neg (r : Int) (h0 : -2147483648 ≤ r) (h1 : r < 0) (w : World) :
    Calls Tryd.prog 34 #[.int .i32 r] w fun e w' => e = .returned (.slice none 0 0) ∧ w = w' := by
  go_enter Tryd.func34, Tryd.ntmps34
  go_wp2
  go_ret
  exact ⟨rfl, rfl⟩

set_option maxHeartbeats 4000000 in
set_option maxRecDepth 100000 in
theorem senc_sur (r : Int) (h0 : 55296 ≤ r) (h1 : r ≤ 57343) (w : World) :
    Calls Tryd.prog 34 #[.int .i32 r] w fun e w' => e = .returned (.slice none 0 0) ∧ w = w' := by
  go_enter Tryd.func34, Tryd.ntmps34
  go_wp2
  go_ret
  exact ⟨rfl, rfl⟩

set_option maxHeartbeats 4000000 in
set_option maxRecDepth 100000 in
theorem senc_big (r : Int) (h0 : 1114111 < r) (h1 : r ≤ 2147483647) (w : World) :
    Calls Tryd.prog 34 #[.int .i32 r] w fun e w' => e = .returned (.slice none 0 0) ∧ w = w' := by
  go_enter Tryd.func34, Tryd.ntmps34
  go_wp2
  go_ret
  exact ⟨rfl, rfl⟩

def EncDone (w : World) (l : List Value) (m : Nat) (e : Ending) (w' : World) : Prop :=
  ∃ b, e = .returned (.slice (some ⟨b, 0, none⟩) m m) ∧ w.heap.size ≤ b ∧ CellsAt w' ⟨b, 0, none⟩ l ∧ New w w'

theorem specEnc_good (r : Int) (l : List Value) (m : Nat) (hm : 0 < m) (H : ∀ w, Calls Tryd.prog 34 #[.int .i32 r] w fun e w' => e = .returned (.slice (some ⟨w.heap.size, 0, none⟩) m m) ∧ w' = w.alloc (.cells l.toArray 5)) (w : World) :
    Calls Tryd.prog 31 #[.int .i32 r] w (EncDone w l m) := by
  have HH := Lib.hid H
  have hm' : ¬ (m : Int) = 0 := by omega
  have hmb : ((m : Int) == 0) = false := by simp; omega
  clear H
  go_enter Tryd.func31, Tryd.ntmps31
  go_wp2_with fail
  refine (HH.out _).mono ?_
  rintro e w1 ⟨rfl, hw1⟩
  have Hw1 := Lib.hid hw1
  clear hw1
  go_wp2_with fail
  refine (HH.out _).mono ?_
  rintro e w2 ⟨rfl, hw2⟩
  have Hw2 := Lib.hid hw2
  clear hw2
  go_wp2
  go_ret
  have h2 := Hw2.out
  have h1 := Hw1.out
  subst h2 h1
  exact ⟨_, rfl, by simp, fun j u hu => cells_encoded (w.alloc (.cells l.toArray 5)) l _ rfl j u hu, ((Keep.refl _ w).alloc _).alloc _⟩

theorem specEnc_bad (r : Int) (H : ∀ w, Calls Tryd.prog 34 #[.int .i32 r] w fun e w' => e = .returned (.slice none 0 0) ∧ w = w') (w : World) :
    Calls Tryd.prog 31 #[.int .i32 r] w (EncDone w [.int .u8 239, .int .u8 191, .int .u8 189] 3) := by
  have HH := Lib.hid H
  clear H
  go_enter Tryd.func31, Tryd.ntmps31
  go_wp2_with fail
  refine (HH.out _).mono ?_
  rintro e w1 ⟨rfl, rfl⟩
  go_wp2_with fail
  refine (senc_hi 65533 (by omega) (by omega) _).mono ?_
  rintro e w2 ⟨rfl, hw2⟩
  have Hw2 := Lib.hid hw2
  clear hw2
  go_wp2
  go_ret
  have h2 := Hw2.out
  subst h2
  exact ⟨_, rfl, Nat.le_refl _, fun j u hu => cells_encoded w [.int .u8 239, .int .u8 191, .int .u8 189] _ rfl j u hu, (Keep.refl _ w).alloc _⟩

/-- The bytes of a rune in a new row. -/
theorem specEncoded_any (w : World) (r : Int) (hlo : -2147483648 ≤ r) (hhi : r ≤ 2147483647) (m : Nat) (hm : (runeB r).length = m) :
    Calls Tryd.prog 31 #[.int .i32 r] w fun e w' => ∃ b, e = .returned (.slice (some ⟨b, 0, none⟩) m m) ∧ w.heap.size ≤ b ∧ BytesAt w' (.slice (some ⟨b, 0, none⟩) m m) (runeB r) ∧ New w w' := by
  have key : ∀ (l : List Value), Lib.runeCells r = l → 0 < l.length → Calls Tryd.prog 31 #[.int .i32 r] w (EncDone w l l.length) → Calls Tryd.prog 31 #[.int .i32 r] w fun e w' => ∃ b, e = .returned (.slice (some ⟨b, 0, none⟩) m m) ∧ w.heap.size ≤ b ∧ BytesAt w' (.slice (some ⟨b, 0, none⟩) m m) (runeB r) ∧ New w w' := by
    intro l e hl h
    have hml : l.length = m := by rw [← e, Lib.runeCells_length]; exact hm
    have hb4 := runeB_length r
    refine h.mono ?_
    rintro e' w' ⟨b, rfl, hb, hc, hn⟩
    rw [hml]
    refine ⟨b, rfl, hb, ?_, hn⟩
    show RowAt w' _ (bytesV (runeB r))
    rw [runeB_cells, e]
    refine ⟨some ⟨b, 0, none⟩, m, by rw [hml], by omega, by unfold maxLen; omega, (fun e => by cases e), fun ad e => ?_⟩
    cases e
    exact hc
  by_cases n0 : r < 0
  · exact key _ (runeCells_of (Lib.encodeRuneZ_bad (Or.inl n0))) (by decide) (specEnc_bad r (fun w => senc_neg r hlo n0 w) w)
  by_cases n6 : r < 128
  · exact key _ (runeCells_of (Lib.encodeRuneZ_one (r := r) (by omega) (by omega))) (by simp) (specEnc_good r _ _ (by simp) (fun w => senc_one r (by omega) n6 w) w)
  by_cases n1 : r ≤ 2047
  · exact key _ (runeCells_of (Lib.encodeRuneZ_two (by omega) n1)) (by simp) (specEnc_good r _ _ (by simp) (fun w => senc_two r (by omega) n1 w) w)
  by_cases n2 : r < 55296
  · exact key _ (runeCells_of (Lib.encodeRuneZ_three (Or.inl ⟨by omega, n2⟩))) (by simp) (specEnc_good r _ _ (by simp) (fun w => senc_lo r (by omega) n2 w) w)
  by_cases n3 : r ≤ 57343
  · exact key _ (runeCells_of (Lib.encodeRuneZ_bad (Or.inr (Or.inl ⟨by omega, n3⟩)))) (by decide) (specEnc_bad r (fun w => senc_sur r (by omega) n3 w) w)
  by_cases n4 : r ≤ 65535
  · exact key _ (runeCells_of (Lib.encodeRuneZ_three (Or.inr ⟨by omega, n4⟩))) (by simp) (specEnc_good r _ _ (by simp) (fun w => senc_hi r (by omega) n4 w) w)
  by_cases n5 : r ≤ 1114111
  · exact key _ (runeCells_of (Lib.encodeRuneZ_four (by omega) n5)) (by simp) (specEnc_good r _ _ (by simp) (fun w => senc_four r (by omega) n5 w) w)
  · exact key _ (runeCells_of (Lib.encodeRuneZ_bad (r := r) (Or.inr (Or.inr (by omega))))) (by decide) (specEnc_bad r (fun w => senc_big r (by omega) hhi w) w)
end Go.Proofs.YtegbfhfmbjdjiaaDoor
