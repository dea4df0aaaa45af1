/-
  The walk of the law FnPartsAlike.
-/
import Derived.Test.YtjihbkmbbcdnfaaDoorJoined
import Derived.Test.YtjihbkmbbcdnfaaDoorEqual
namespace Go.Proofs.YtjihbkmbbcdnfaaDoor
open Go.RowKit

theorem infoBytes : (Tryd.prog.info? 27).map (fun i => (i.zero, i.size, i.bytes)) = some (some (.slice none 0 0), 1, 24) := by kernel_rfl

/-- The one-byte cuts of a row, k of them. -/
def onesV (b1 c1 k : Nat) : List Value := (List.range k).map fun j => .slice (some ⟨b1, j, none⟩) 1 (c1 - j)

theorem onesV_length (b1 c1 k : Nat) : (onesV b1 c1 k).length = k := by simp [onesV]
theorem onesV_succ (b1 c1 k : Nat) : onesV b1 c1 (k + 1) = onesV b1 c1 k ++ [.slice (some ⟨b1, k, none⟩) 1 (c1 - k)] := by simp [onesV, List.range_succ]

def OInv (w : World) (y : List UInt8) (b1 c1 : Nat) (g : Nat) (o i : Value) (wr : World) : Prop :=
  ∃ (k : Nat) (a : Option Addr) (c : Nat), k ≤ y.length ∧ i = .int .i64 k ∧ o = .slice a k c ∧ wr.ownsRow w.heap.size 27 1 o k (onesV b1 c1 k) ∧ New w wr ∧ g = y.length - k

theorem joined_ones (y : List UInt8) : joined (y.map fun x => [x]) = y := by
  induction y with
  | nil => rfl
  | cons x r ih => simp [joined] at ih ⊢; exact ih

theorem same_true (x y : Int) (h : x = y) : Ending.returned (.bool (x == y)) = .returned (.bool true) := by simp [h]

theorem joined_one (y : List UInt8) : joined [y] = y := by simp [joined]

theorem ones_parts {w wr : World} {y : List UInt8} {a1 : Option Addr} {b1 c1 : Nat} {v : Value} {base : Nat} (hy : BytesAt w (.slice a1 y.length c1) y) (ha : 0 < y.length → a1 = some ⟨b1, 0, none⟩) (hn : New w wr)
    (ho : wr.ownsRow base 27 1 v y.length (onesV b1 c1 y.length)) : PartsAt wr v (y.map fun x => [x]) := by
  refine ⟨onesV b1 c1 y.length, ownsRow_rowAt ho, by simp [onesV_length], fun j u p hu hp => ?_⟩
  have hj : j < y.length := by
    rcases Nat.lt_or_ge j y.length with h | h
    · exact h
    · rw [List.getElem?_eq_none (by rw [onesV_length]; omega)] at hu; cases hu
  simp only [onesV, List.getElem?_map, List.getElem?_range hj, Option.map_some, Option.some.injEq] at hu
  simp only [List.getElem?_map, List.getElem?_eq_getElem hj, Option.map_some, Option.some.injEq] at hp
  subst hu hp
  have hpp := RowAt.parts hy
  have hc : y.length ≤ c1 := by have := hpp.2.1; rw [bytesV_length] at this; exact this
  obtain ⟨_, c', e, _, hm, _⟩ := id hy
  simp only [Value.slice.injEq] at e
  obtain ⟨_, _, rfl⟩ := e
  refine ⟨some ⟨b1, j, none⟩, c1 - j, by simp [bytesV], by simp [bytesV]; omega, by omega, (fun e => by cases e), fun ad e i u hu => ?_⟩
  cases e
  have hi : i = 0 ∧ u = byteV y[j] := by
    cases i with
    | zero => simp [bytesV] at hu; exact ⟨rfl, hu.symm⟩
    | succ i => simp [bytesV] at hu
  obtain ⟨rfl, rfl⟩ := hi
  have h1 := hpp.2.2.2 ⟨b1, 0, none⟩ (ha (by omega)) j (byteV y[j]) (by simp [bytesV, hj])
  rw [addr0_add] at h1
  have h2 : (⟨b1, j, none⟩ : Addr).add 0 = ⟨b1, j, none⟩ := by simp [Addr.add]
  rw [h2]
  exact hn.cellAt h1

theorem one_parts {w : World} {y : List UInt8} {v : Value} {b : Nat} (hy : BytesAt w v y) (hc : w.cell? ⟨b, 0, none⟩ = some v) : PartsAt w (.slice (some ⟨b, 0, none⟩) 1 1) [y] := by
  refine ⟨[v], ⟨some ⟨b, 0, none⟩, 1, rfl, Nat.le_refl _, by unfold maxLen; omega, (fun e => by cases e), fun ad e j u hu => ?_⟩, rfl, fun j u p hu hp => ?_⟩
  · cases e
    cases j with
    | zero => simp at hu; subst hu; simpa [Addr.add] using hc
    | succ j => simp at hu
  · cases j with
    | zero => simp at hu hp; subst hu hp; exact hy
    | succ j => simp at hu

set_option maxRecDepth 100000 in
set_option maxHeartbeats 2000000 in
theorem walkFnPartsAlike (w : World) (B0 : Nat) (ad : Nat → Addr) (hE : Errs w B0 ad) (hB0 : B0 ≤ w.heap.size) (n m room : Int) (v : Value) (ps : List (List UInt8)) (h1 : -32768 ≤ n) (h2 : n ≤ 32767) (h3 : -32768 ≤ m) (h4 : m ≤ 32767)
    (r1 : -9223372036854775807 ≤ room + 1) (r2 : room ≤ 9223372036854775807) (hv : PartsAt w v ps) (hall : (joined ps).length ≤ 1048576) :
    Calls Tryd.prog 4 #[.int .i16 n, .int .i16 m, v, .int .i64 room] w fun e w' => e = .returned (.bool true) ∧ New w w' := by
  obtain ⟨y, hy⟩ : ∃ y, y = joined ps := ⟨_, rfl⟩
  obtain ⟨z, hz⟩ : ∃ z, z = y.take room.toNat := ⟨_, rfl⟩
  obtain ⟨num, hnum⟩ : ∃ num : Int, num = if room.toNat < y.length then 9 else 0 := ⟨_, rfl⟩
  have hyl : y.length ≤ 1048576 := by rw [hy]; exact hall
  obtain ⟨i0, hi, hz0, hz1, hz2⟩ := info_parts infoBytes
  have HV := Lib.hid hv
  have HE := Lib.hid hE
  have hzl : z.length ≤ 140737488355328 := by rw [hz]; simp; omega
  have hzm : (z.length : Int) = min (y.length : Int) (max 0 room) := by rw [hz]; simp; omega
  have Hy := Lib.hid hy
  have Hz := Lib.hid hz
  have Hnum := Lib.hid hnum
  have Hzm := Lib.hid hzm
  have Hz1 : Hid (z = (joined ps).take room.toNat) := by show _ = _; rw [hz, hy]
  have Hn1 : Hid (num = if room.toNat < (joined ps).length then 9 else 0) := by show _ = _; rw [hnum, hy]
  have Hz2 : Hid (z = (joined [y]).take room.toNat) := by show _ = _; rw [hz, joined_one]
  have Hn2 : Hid (num = if room.toNat < (joined [y]).length then 9 else 0) := by show _ = _; rw [hnum, joined_one]
  have Hz3 : Hid (z = (joined (y.map fun x => [x])).take room.toNat) := by show _ = _; rw [hz, joined_ones]
  have Hn3 : Hid (num = if room.toNat < (joined (y.map fun x => [x])).length then 9 else 0) := by show _ = _; rw [hnum, joined_ones]
  have Hl2 : Hid ((joined [y]).length ≤ 140737488355328) := by show _ ≤ _; rw [joined_one]; omega
  have Hl3 : Hid ((joined (y.map fun x => [x])).length ≤ 140737488355328) := by show _ ≤ _; rw [joined_ones]; omega
  clear hv hE hy hz hnum hzm
  go_enter Tryd.func4, Tryd.ntmps4
  go_wp2_with fail
  refine (lawJoined _ v ps HV.out (by omega) y Hy.out).mono ?_
  rintro e w1 ⟨a1, c1, rfl, ho1, hn1⟩
  have hr1 : BytesAt w1 (.slice a1 y.length c1) y := ownsRow_rowAt ho1
  have hyc : y.length ≤ c1 := by have := (RowAt.parts hr1).2.1; rw [bytesV_length] at this; exact this
  obtain ⟨b1, hb1⟩ : ∃ b1, 0 < y.length → a1 = some ⟨b1, 0, none⟩ := by
    by_cases h0 : 0 < y.length
    · obtain ⟨g, cap, e, _⟩ := ho1.form h0
      simp only [Value.slice.injEq] at e
      exact ⟨g, fun _ => e.1⟩
    · exact ⟨0, fun h => absurd h h0⟩
  have Hr1 := Lib.hid hr1
  have Hb1 := Lib.hid hb1
  have HV1 := Lib.hid (HV.out.new hn1)
  have HE1 := Lib.hid (HE.out.keep hn1 (fun _ _ f => f))
  have HN1 := Lib.hid hn1
  have H0 : Hid (OInv w1 y b1 c1 y.length (.slice none 0 0) (.int .i64 0) w1) := ⟨0, none, 0, Nat.zero_le _, rfl, rfl, by simpa [onesV] using World.ownsRow_nil w1 _ _ _, Keep.refl _ _, rfl⟩
  have hB1 : B0 ≤ w1.heap.size := by have := hn1.size; omega
  clear hr1 hb1 ho1 hn1
  go_wp2_with fail
  go_loopg [10, 22, 11] y.length (fun g o i q wr => OInv w1 y b1 c1 g o i wr)
  case atStart => exact H0.out
  case round =>
    obtain ⟨k, ao, co, hk, rfl, rfl, hown, hnw, rfl⟩ := hrel
    by_cases hlt : k < y.length
    · obtain rfl := Hb1.out (by omega)
      obtain ⟨a2, hsl, ha2, hxx⟩ := slice_cut (P := Tryd.prog) 27 5 Tryd.underlying27 sizeByte (some ⟨b1, 0, none⟩) y.length c1 k (k + 1) (by omega) (by omega) .i64 .i64
      have ha3 : a2 = some ⟨b1, k, none⟩ := by rw [ha2 (by omega)]; exact congrArg some (addr0_add _ _)
      subst ha3
      rw [show k + 1 - k = 1 by omega, show (((k + 1 : Nat)) : Int) = (k : Int) + 1 by omega] at hsl
      have Hown := Lib.hid hown
      have Hnw := Lib.hid hnw
      have hlt' : (k : Int) < y.length := by omega
      have hbase := hnw.size
      clear hown hnw ha2 hxx
      go_wp2_with (at_builtin; refine wpList_append_row rfl _ _ 25 rfl w1.heap.size 27 i0 (.slice none 0 0) 1 24 Tryd.underlying25 hi hz0 hz1 hz2 ?x2 ?x3 _ k (onesV b1 c1 k) rfl ?x5 (some ⟨wr.heap.size, 0, none⟩) 1 1 [.slice (some ⟨b1, k, none⟩) 1 (c1 - k)] ?x6 ?x7 ?x8 ?c0 ?c1 ?c2 ?c3 ?c4 ?_)
      case x5 => exact Hown.out.alloc _
      case c0 =>
        intro j u hu
        cases j with
        | zero => simp at hu; subst hu; simp [Addr.add]
        | succ j => simp at hu
      case c1 => rfl
      case c2 => unfold maxLen; omega
      case c3 => omega
      case c4 => omega
      intro a3 c3 w3 ho3 hg3 hb3
      have H3 : Hid (OInv w1 y b1 c1 (y.length - (k + 1)) (.slice a3 (k + 1) c3) (.int .i64 ((k + 1 : Nat) : Int)) w3) := by
        refine ⟨k + 1, a3, c3, hlt, rfl, rfl, by rw [onesV_succ]; exact ho3, ?_, rfl⟩
        exact (Hnw.out.alloc _).trans ((Keep.refl (fun i => (Value.slice ao k co).ownBlock = some i) _).grown hg3 (fun i hi => .inl hi)) (fun i hi e => by have := (Hown.out.lt i e).1; omega)
      clear ho3 hg3 hb3
      go_wp2
      go_roundg (y.length - (k + 1))
      case measure => omega
      case rel => exact H3.out
    · obtain rfl : k = y.length := by omega
      have hnl : ¬ ((y.length : Int) < y.length) := by omega
      have hparts := ones_parts Hr1.out Hb1.out hnw hown
      have HPt := Lib.hid hparts
      have HV2 := Lib.hid (HV1.out.new hnw)
      have HE2 := Lib.hid (HE1.out.keep hnw (fun _ _ f => f))
      have HN2 := Lib.hid (HN1.out.then hnw)
      have HR2 := Lib.hid (Hr1.out.new hnw)
      have hB2 : B0 ≤ wr.heap.size := by have := hnw.size; omega
      clear hparts hown hnw hlt
      go_wp2_with fail
      refine (writeAll_any _ B0 ad HE2.out hB2 n room v ps h1 h2 r1 r2 HV2.out (by omega) z Hz1.out num Hn1.out).mono ?_
      rintro e w4 ⟨a4, c4, rfl, ho4, hn4⟩
      have HA := Lib.hid (show BytesAt w4 (.slice a4 z.length c4) z from ownsRow_rowAt ho4)
      have HPt4 := Lib.hid (HPt.out.new hn4)
      have HE4 := Lib.hid (HE2.out.keep hn4 (fun _ _ f => f))
      have HN4 := Lib.hid (HN2.out.then hn4)
      have HR4 := Lib.hid (HR2.out.new hn4)
      have hB4 : B0 ≤ w4.heap.size := by have := hn4.size; omega
      clear ho4 hn4 HPt HV2 HE2 HN2 HR2
      go_wp2_with fail
      have hn5 : New w4 (w4.alloc (.cells #[.slice a1 y.length c1] 27)) := (Keep.refl _ _).alloc _
      refine (writeAll_any _ B0 ad (HE4.out.keep hn5 (fun _ _ f => f)) (by simp; omega) m room _ [y] h3 h4 r1 r2 (one_parts (HR4.out.new hn5) (cell_new _ _ _ _)) Hl2.out z Hz2.out num Hn2.out).mono ?_
      rintro e w6 ⟨a6, c6, rfl, ho6, hn6⟩
      have hn46 := hn5.then hn6
      have HB := Lib.hid (show BytesAt w6 (.slice a6 z.length c6) z from ownsRow_rowAt ho6)
      have HA6 := Lib.hid (HA.out.new hn46)
      have HPt6 := Lib.hid (HPt4.out.new hn46)
      have HE6 := Lib.hid (HE4.out.keep hn46 (fun _ _ f => f))
      have HN6 := Lib.hid (HN4.out.then hn46)
      have hB6 : B0 ≤ w6.heap.size := by have := hn46.size; omega
      clear ho6 hn6 hn5 hn46 HA HPt4 HE4 HN4 HR4
      go_wp2_with fail
      refine (writeAll_any _ B0 ad HE6.out hB6 m room _ _ h3 h4 r1 r2 HPt6.out Hl3.out z Hz3.out num Hn3.out).mono ?_
      rintro e w7 ⟨a7, c7, rfl, ho7, hn7⟩
      have HC := Lib.hid (show BytesAt w7 (.slice a7 z.length c7) z from ownsRow_rowAt ho7)
      have HA7 := Lib.hid (HA6.out.new hn7)
      have HB7 := Lib.hid (HB.out.new hn7)
      have HN7 := Lib.hid (HN6.out.then hn7)
      clear ho7 hn7 HA6 HPt6 HE6 HN6 HB
      go_wp2_with fail
      refine (equal_gen _ _ _ z z HA7.out HB7.out (by omega) true (by simp)).mono ?_
      rintro e w8 ⟨rfl, hn8⟩
      have HB8 := Lib.hid (HB7.out.new hn8)
      have HC8 := Lib.hid (HC.out.new hn8)
      have HN8 := Lib.hid (HN7.out.then hn8)
      clear hn8
      go_wp2_with fail
      refine (equal_gen _ _ _ z z HB8.out HC8.out (by omega) true (by simp)).mono ?_
      rintro e w9 ⟨rfl, hn9⟩
      have HN9 := Lib.hid (HN8.out.then hn9)
      clear hn9
      go_wp2
      all_goals
        have hf := Hzm.out
        go_ret
        refine ⟨same_true _ _ ?_, HN9.out⟩
        omega
end Go.Proofs.YtjihbkmbbcdnfaaDoor
