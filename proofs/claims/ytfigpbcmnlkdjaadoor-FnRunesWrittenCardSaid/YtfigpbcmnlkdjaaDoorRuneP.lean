/-
  The bytes of a rune, what the library's tables say of them and of their beginnings, and what they decode to. No program in sight.
-/
import Derived.Test.YtfigpbcmnlkdjaaDoorBase
import Derived.Lib.RuneBytes
import Derived.Lib.DecodeN
namespace Go.Proofs.YtfigpbcmnlkdjaaDoor
open Go.RowKit

/-- The bytes of a rune. -/
def runeB (r : Int) : List UInt8 := Lib.encodeRune r
theorem runeB_cells (r : Int) : bytesV (runeB r) = Lib.runeCells r := Lib.byteCells_encodeRune r
theorem runeB_length (r : Int) : 1 ≤ (runeB r).length ∧ (runeB r).length ≤ 4 := by
  have := Lib.runeCells_le r
  rw [Lib.runeCells_length] at this
  exact this
theorem runeCells_of {r : Int} {l : List Int} (h : Lib.encodeRuneZ r = l) : Lib.runeCells r = l.map fun x => Value.int .u8 x := by rw [Lib.runeCells, h]

/-- What is no rune is U+FFFD. -/
def sane (r : Int) : Int := if r < 0 ∨ (55296 ≤ r ∧ r ≤ 57343) ∨ 1114111 < r then 65533 else r
def Rune (z : Int) : Prop := (0 ≤ z ∧ z < 55296) ∨ (57344 ≤ z ∧ z ≤ 1114111)
theorem sane_rune (r : Int) : Rune (sane r) := by unfold sane Rune; split <;> omega
theorem runeB_sane (r : Int) : runeB (sane r) = runeB r := by
  unfold sane
  split
  · rename_i h
    unfold runeB Lib.encodeRune
    rw [Lib.encodeRuneZ_bad h, Lib.encodeRuneZ_three (by omega)]
    rfl
  · rfl

theorem byte_nat (x : Int) (h0 : 0 ≤ x) (h1 : x < 256) : (x.toNat.toUInt8).toNat = x.toNat := by
  have : x.toNat < 256 := by omega
  simp [Nat.toUInt8, UInt8.toNat_ofNat']
  omega

/-- The four shapes of a rune's bytes, as numbers. -/
theorem runeB_shape {z : Int} (h : Rune z) : ∃ n : Nat, z = n ∧
    ((n < 128 ∧ (runeB z).map (·.toNat) = [n]) ∨ (128 ≤ n ∧ n < 2048 ∧ (runeB z).map (·.toNat) = [192 + n / 64, 128 + n % 64]) ∨
     (2048 ≤ n ∧ n < 65536 ∧ (n < 55296 ∨ 57344 ≤ n) ∧ (runeB z).map (·.toNat) = [224 + n / 4096, 128 + n / 64 % 64, 128 + n % 64]) ∨
     (65536 ≤ n ∧ n ≤ 1114111 ∧ (runeB z).map (·.toNat) = [240 + n / 262144, 128 + n / 4096 % 64, 128 + n / 64 % 64, 128 + n % 64])) := by
  unfold Rune at h
  obtain ⟨n, rfl⟩ : ∃ n : Nat, z = n := ⟨z.toNat, by omega⟩
  refine ⟨n, rfl, ?_⟩
  unfold runeB Lib.encodeRune
  by_cases h1 : n < 128
  · left
    rw [Lib.encodeRuneZ_one (by omega) (by omega)]
    refine ⟨h1, ?_⟩
    simp only [List.map]
    rw [byte_nat _ (by omega) (by omega)]
    rfl
  by_cases h2 : n < 2048
  · right; left
    rw [Lib.encodeRuneZ_two (by omega) (by omega)]
    refine ⟨by omega, h2, ?_⟩
    simp only [List.map]
    rw [byte_nat _ (by omega) (by omega), byte_nat _ (by omega) (by omega)]
    rw [show (192 + (n : Int) / 64).toNat = 192 + n / 64 by omega, show (128 + (n : Int) % 64).toNat = 128 + n % 64 by omega]
  by_cases h3 : n < 65536
  · right; right; left
    rw [Lib.encodeRuneZ_three (by omega)]
    refine ⟨by omega, h3, by omega, ?_⟩
    simp only [List.map]
    rw [byte_nat _ (by omega) (by omega), byte_nat _ (by omega) (by omega), byte_nat _ (by omega) (by omega)]
    rw [show (224 + (n : Int) / 4096).toNat = 224 + n / 4096 by omega, show (128 + (n : Int) / 64 % 64).toNat = 128 + n / 64 % 64 by omega, show (128 + (n : Int) % 64).toNat = 128 + n % 64 by omega]
  · right; right; right
    rw [Lib.encodeRuneZ_four (by omega) (by omega)]
    refine ⟨by omega, by omega, ?_⟩
    simp only [List.map]
    rw [byte_nat _ (by omega) (by omega), byte_nat _ (by omega) (by omega), byte_nat _ (by omega) (by omega), byte_nat _ (by omega) (by omega)]
    rw [show (240 + (n : Int) / 262144).toNat = 240 + n / 262144 by omega, show (128 + (n : Int) / 4096 % 64).toNat = 128 + n / 4096 % 64 by omega, show (128 + (n : Int) / 64 % 64).toNat = 128 + n / 64 % 64 by omega, show (128 + (n : Int) % 64).toNat = 128 + n % 64 by omega]

/-- The j-th byte of a list, as a number; 0 behind its end. -/
def nth (l : List UInt8) (j : Nat) : Nat := (l.getD j 0).toNat

theorem nth_map (l : List UInt8) (j : Nat) : nth l j = (l.map (·.toNat)).getD j 0 := by
  unfold nth
  rw [List.getD_eq_getElem?_getD, List.getD_eq_getElem?_getD, List.getElem?_map]
  cases l[j]? <;> rfl
theorem nth_append (l m : List UInt8) (j : Nat) (h : j < l.length) : nth (l ++ m) j = nth l j := by
  unfold nth
  rw [List.getD_eq_getElem?_getD, List.getD_eq_getElem?_getD, List.getElem?_append_left h]
theorem nth_take (l : List UInt8) (n j : Nat) (h : j < n) : nth (l.take n) j = nth l j := by
  unfold nth
  rw [List.getD_eq_getElem?_getD, List.getD_eq_getElem?_getD, List.getElem?_take, if_pos h]
theorem nth_lt (l : List UInt8) (j : Nat) : nth l j < 256 := (l.getD j 0).toNat_lt

/-- What the tables say of a rune's bytes: how many there are, and that each beginning of them is not full. -/
theorem rune_tabs {z : Int} (h : Rune z) :
    Lib.firstT (nth (runeB z) 0) % 8 ≤ (runeB z).length ∧
    (1 < (runeB z).length → Lib.firstT (nth (runeB z) 0) % 8 = (runeB z).length ∧ Lib.accLo (Lib.firstT (nth (runeB z) 0) / 16) ≤ nth (runeB z) 1 ∧ nth (runeB z) 1 ≤ Lib.accHi (Lib.firstT (nth (runeB z) 0) / 16)) ∧
    (2 < (runeB z).length → 128 ≤ nth (runeB z) 2 ∧ nth (runeB z) 2 ≤ 191) := by
  obtain ⟨n, rfl, hs⟩ := runeB_shape h
  have hl : (runeB (n : Int)).length = ((runeB (n : Int)).map (·.toNat)).length := by simp
  rw [nth_map, nth_map, nth_map, hl]
  rcases hs with ⟨h1, e⟩ | ⟨h1, h2, e⟩ | ⟨h1, h2, h3, e⟩ | ⟨h1, h2, e⟩ <;> rw [e] <;> simp only [List.length_cons, List.length_nil, List.getD_eq_getElem?_getD, List.getElem?_cons_zero, List.getElem?_cons_succ, Option.getD_some]
  · refine ⟨?_, fun h => by omega, fun h => by omega⟩
    unfold Lib.firstT; rw [if_pos h1]; omega
  · have hf : Lib.firstT (192 + n / 64) = 2 := by
      unfold Lib.firstT
      rw [if_neg (by omega), if_neg (by omega), if_pos (by omega)]
    rw [hf]
    refine ⟨by omega, fun _ => ⟨by omega, by simp [Lib.accLo], by simp [Lib.accHi]; omega⟩, fun h => by omega⟩
  · have hf : (Lib.firstT (224 + n / 4096) = 19 ∧ n / 4096 = 0) ∨ (Lib.firstT (224 + n / 4096) = 3 ∧ ¬ n / 4096 = 0 ∧ ¬ n / 4096 = 13) ∨ (Lib.firstT (224 + n / 4096) = 35 ∧ n / 4096 = 13) := by
      unfold Lib.firstT
      repeat' split
      all_goals omega
    rcases hf with ⟨hf, hq⟩ | ⟨hf, hq, hq2⟩ | ⟨hf, hq⟩ <;> rw [hf]
    · exact ⟨by omega, fun _ => ⟨by omega, by simp [Lib.accLo]; omega, by simp [Lib.accHi]; omega⟩, fun _ => by omega⟩
    · exact ⟨by omega, fun _ => ⟨by omega, by simp [Lib.accLo], by simp [Lib.accHi]; omega⟩, fun _ => by omega⟩
    · exact ⟨by omega, fun _ => ⟨by omega, by simp [Lib.accLo], by simp [Lib.accHi]; omega⟩, fun _ => by omega⟩
  · have hf : (Lib.firstT (240 + n / 262144) = 52 ∧ n / 262144 = 0) ∨ (Lib.firstT (240 + n / 262144) = 4 ∧ ¬ n / 262144 = 0 ∧ ¬ n / 262144 = 4) ∨ (Lib.firstT (240 + n / 262144) = 68 ∧ n / 262144 = 4) := by
      unfold Lib.firstT
      repeat' split
      all_goals omega
    rcases hf with ⟨hf, hq⟩ | ⟨hf, hq, hq2⟩ | ⟨hf, hq⟩ <;> rw [hf]
    · exact ⟨by omega, fun _ => ⟨by omega, by simp [Lib.accLo]; omega, by simp [Lib.accHi]; omega⟩, fun _ => by omega⟩
    · exact ⟨by omega, fun _ => ⟨by omega, by simp [Lib.accLo], by simp [Lib.accHi]; omega⟩, fun _ => by omega⟩
    · exact ⟨by omega, fun _ => ⟨by omega, by simp [Lib.accLo], by simp [Lib.accHi]; omega⟩, fun _ => by omega⟩

/-- A list that begins with a rune's bytes decodes to it. -/
theorem rune_decode {z : Int} (h : Rune z) (t : List UInt8) : Lib.decodeN (runeB z ++ t).length (nth (runeB z ++ t) 0) (nth (runeB z ++ t) 1) (nth (runeB z ++ t) 2) (nth (runeB z ++ t) 3) = (z.toNat, (runeB z).length) := by
  obtain ⟨n, rfl, hs⟩ := runeB_shape h
  have hl : (runeB (n : Int)).length = ((runeB (n : Int)).map (·.toNat)).length := by simp
  rw [nth_map, nth_map, nth_map, nth_map, List.length_append, List.map_append, hl, Int.toNat_natCast]
  generalize t.map (·.toNat) = t'
  rcases hs with ⟨h1, e⟩ | ⟨h1, h2, e⟩ | ⟨h1, h2, h3, e⟩ | ⟨h1, h2, e⟩ <;> rw [e] <;> simp only [List.length_cons, List.length_nil, List.cons_append, List.nil_append, List.getD_eq_getElem?_getD, List.getElem?_cons_zero, List.getElem?_cons_succ, Option.getD_some]
  · unfold Lib.decodeN; rw [if_pos h1]
  · unfold Lib.decodeN
    rw [if_neg (by omega), if_pos (by omega), if_pos (by omega)]
    apply Prod.ext <;> simp only
    omega
  · unfold Lib.decodeN
    rw [if_neg (by omega), if_neg (by omega), if_pos (by omega), if_pos (by omega)]
    apply Prod.ext <;> simp only
    omega
  · unfold Lib.decodeN
    rw [if_neg (by omega), if_neg (by omega), if_neg (by omega), if_pos (by omega), if_pos (by omega)]
    apply Prod.ext <;> simp only
    omega
end Go.Proofs.YtfigpbcmnlkdjaaDoor
