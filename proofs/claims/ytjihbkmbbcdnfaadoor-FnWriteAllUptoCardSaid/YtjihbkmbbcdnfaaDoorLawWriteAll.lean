/-
  The walk of the law FnWriteAll.
-/
import Derived.Test.YtjihbkmbbcdnfaaDoorJoined
import Derived.Test.YtjihbkmbbcdnfaaDoorEqual
namespace Go.Proofs.YtjihbkmbbcdnfaaDoor
open Go.RowKit

set_option maxRecDepth 100000 in
set_option maxHeartbeats 1000000 in
theorem walkFnWriteAll (w : World) (B0 : Nat) (ad : Nat → Addr) (hE : Errs w B0 ad) (hB0 : B0 ≤ w.heap.size) (n room : Int) (v : Value) (ps : List (List UInt8)) (h1 : -32768 ≤ n) (h2 : n ≤ 32767)
    (r1 : -9223372036854775807 ≤ room + 1) (r2 : room ≤ 9223372036854775807) (hv : PartsAt w v ps) (hall : (joined ps).length ≤ 140737488355328) :
    Calls Tryd.prog 5 #[.int .i16 n, v, .int .i64 room] w fun e w' => e = .returned (.bool true) ∧ New w w' := by
  obtain ⟨y, hy⟩ : ∃ y, y = joined ps := ⟨_, rfl⟩
  obtain ⟨z, hz⟩ : ∃ z, z = (joined ps).take room.toNat := ⟨_, rfl⟩
  obtain ⟨num, hnum⟩ : ∃ num : Int, num = if room.toNat < (joined ps).length then 9 else 0 := ⟨_, rfl⟩
  have hyl : y.length ≤ 140737488355328 := by rw [hy]; exact hall
  have Hz : Hid (z = y.take room.toNat) := by show _ = _; rw [hz, hy]
  have HV := Lib.hid hv
  have HE := Lib.hid hE
  have Hnum : Hid (num = if room.toNat < y.length then 9 else 0) := by show _ = _; rw [hnum, hy]
  have hzl : z.length ≤ 140737488355328 := by rw [hz]; simp; omega
  have Hhy := Lib.hid hy
  have Hhz := Lib.hid hz
  have Hhn := Lib.hid hnum
  clear hv hE hy hz hnum
  by_cases hle : (y.length : Int) ≤ max 0 room
  · by_cases hr0 : 0 < room
    · have Hzy : Hid (true = decide (z = y)) := by
        show _ = _
        rw [Hz.out, List.take_of_length_le (by omega)]; simp
      have hn0 : num = 0 := by rw [Hnum.out, if_neg (by omega)]
      subst hn0
      have hle' : Hid ((y.length : Int) ≤ max 0 room) := hle
      go_enter Tryd.func5, Tryd.ntmps5
      go_wp2_with fail
      refine (lawJoined _ v ps HV.out hall y Hhy.out).mono ?_
      rintro e w1 ⟨a1, c1, rfl, ho1, hn1⟩
      have Hr1 : Hid (BytesAt w1 (.slice a1 y.length c1) y) := ownsRow_rowAt ho1
      have HV1 := Lib.hid (HV.out.new hn1)
      have HE1 := Lib.hid (HE.out.keep hn1 (fun _ _ f => f))
      have Hn1 := Lib.hid hn1
      have hb1 : B0 ≤ w1.heap.size := by have := hn1.size; omega
      clear ho1 hn1
      go_wp2_with fail
      refine (writeAll_any _ B0 ad HE1.out hb1 n room v ps h1 h2 r1 r2 HV1.out hall z Hhz.out 0 Hhn.out).mono ?_
      rintro e w2 ⟨a2, c2, rfl, ho2, hn2⟩
      have Hr2 : Hid (BytesAt w2 (.slice a2 z.length c2) z) := ownsRow_rowAt ho2
      have Hr3 := Lib.hid (Hr1.out.new hn2)
      have Hn2 := Lib.hid (Hn1.out.then hn2)
      clear ho2 hn2
      have h0 : 0 < room ∧ (y.length : Int) ≤ room := by omega
      obtain ⟨h0, hle2⟩ := h0
      clear hle
      go_wp2_with fail
      refine (equal_gen _ _ _ z y Hr2.out Hr3.out (by omega) true Hzy.out).mono ?_
      rintro e w3 ⟨rfl, hn3⟩
      go_wp2
      go_ret
      exact ⟨rfl, Hn2.out.then hn3⟩
    · have hynil : y = [] := List.eq_nil_of_length_eq_zero (by omega)
      subst hynil
      have Hzy : Hid (true = decide (z = ([] : List UInt8))) := by
        show _ = _
        rw [Hz.out, List.take_of_length_le (by omega)]; simp
      have hn0 : num = 0 := by rw [Hnum.out, if_neg (by omega)]
      subst hn0
      go_enter Tryd.func5, Tryd.ntmps5
      go_wp2_with fail
      refine (lawJoined _ v ps HV.out hall [] Hhy.out).mono ?_
      rintro e w1 ⟨a1, c1, rfl, ho1, hn1⟩
      have Hr1 : Hid (BytesAt w1 (.slice a1 ([] : List UInt8).length c1) []) := ownsRow_rowAt ho1
      have HV1 := Lib.hid (HV.out.new hn1)
      have HE1 := Lib.hid (HE.out.keep hn1 (fun _ _ f => f))
      have Hn1 := Lib.hid hn1
      have hb1 : B0 ≤ w1.heap.size := by have := hn1.size; omega
      clear ho1 hn1
      go_wp2_with fail
      refine (writeAll_any _ B0 ad HE1.out hb1 n room v ps h1 h2 r1 r2 HV1.out hall z Hhz.out 0 Hhn.out).mono ?_
      rintro e w2 ⟨a2, c2, rfl, ho2, hn2⟩
      have Hr2 : Hid (BytesAt w2 (.slice a2 z.length c2) z) := ownsRow_rowAt ho2
      have Hr3 := Lib.hid (Hr1.out.new hn2)
      have Hn2 := Lib.hid (Hn1.out.then hn2)
      clear ho2 hn2
      clear hle
      go_wp2_with fail
      refine (equal_gen _ _ _ z [] Hr2.out Hr3.out (by omega) true Hzy.out).mono ?_
      rintro e w3 ⟨rfl, hn3⟩
      go_wp2
      go_ret
      exact ⟨rfl, Hn2.out.then hn3⟩
  · obtain ⟨k, hk⟩ : ∃ k : Nat, (k : Int) = max 0 room := ⟨(max 0 room).toNat, by omega⟩
    have hky : k ≤ y.length := by omega
    have hkr : room.toNat = k := by omega
    have Hzy : Hid (true = decide (z = y.take k)) := by
      show _ = _
      rw [Hz.out, hkr]; simp
    have hn9 : num = 9 := by rw [Hnum.out, if_pos (by omega)]
    subst hn9
    have hypos : (max 0 room : Int) < y.length := by omega
    have hd : (0 < room ∧ room < (y.length : Int)) ∨ (¬ 0 < room ∧ (0 : Int) < y.length) := by omega
    have Hd := Lib.hid hd
    clear hd hypos hle
    go_enter Tryd.func5, Tryd.ntmps5
    go_wp2_with fail
    refine (lawJoined _ v ps HV.out hall y Hhy.out).mono ?_
    rintro e w1 ⟨a1, c1, rfl, ho1, hn1⟩
    have hr1 : BytesAt w1 (.slice a1 y.length c1) y := ownsRow_rowAt ho1
    have hyc : y.length ≤ c1 := by have := (RowAt.parts hr1).2.1; rw [bytesV_length] at this; exact this
    have hr1' : BytesAt w1 (.slice a1 k c1) (y.take k) := by
      have := RowAt.upto hr1 (k := k) (by rw [bytesV_length]; exact hky)
      have e1 : (bytesV y).take k = bytesV (y.take k) := by simp [bytesV]
      rw [e1] at this
      exact this
    have Hr1 := Lib.hid hr1'
    have hsl := slice_upto (P := Tryd.prog) 27 5 Tryd.underlying27 sizeByte a1 y.length c1 k (by omega) .i64
    have HV1 := Lib.hid (HV.out.new hn1)
    have HE1 := Lib.hid (HE.out.keep hn1 (fun _ _ f => f))
    have Hn1 := Lib.hid hn1
    have hb1 : B0 ≤ w1.heap.size := by have := hn1.size; omega
    clear ho1 hn1 hr1 hr1'
    go_wp2_with fail
    refine (writeAll_any _ B0 ad HE1.out hb1 n room v ps h1 h2 r1 r2 HV1.out hall z Hhz.out 9 Hhn.out).mono ?_
    rintro e w2 ⟨a2, c2, rfl, ho2, hn2⟩
    have Hr2 : Hid (BytesAt w2 (.slice a2 z.length c2) z) := ownsRow_rowAt ho2
    have Hr3 := Lib.hid (Hr1.out.new hn2)
    have Hn2 := Lib.hid (Hn1.out.then hn2)
    clear ho2 hn2
    rcases Hd.out with ⟨h0, hlt0⟩ | ⟨h0, hlt0⟩
    · obtain rfl : room = k := by omega
      clear hkr hk
      go_wp2_with fail
      refine (equal_gen _ _ _ z (y.take k) Hr2.out Hr3.out (by omega) true Hzy.out).mono ?_
      rintro e w3 ⟨rfl, hn3⟩
      go_wp2
      go_ret
      exact ⟨rfl, Hn2.out.then hn3⟩
    · obtain rfl : k = 0 := by omega
      have hyn : ¬ y = [] := fun e => by rw [e] at hlt0; simp at hlt0
      have hyz : ¬ y.length = 0 := by omega
      clear hkr hk
      have hsl0 : ∀ w, (Instr.slice 27 (.slice a1 y.length c1) none (some (.int .i64 0)) none).run Tryd.prog w = .ok (.slice a1 0 c1) w := hsl
      clear hsl
      go_wp2_with fail
      refine (equal_gen _ _ _ z (y.take 0) Hr2.out Hr3.out (by omega) true Hzy.out).mono ?_
      rintro e w3 ⟨rfl, hn3⟩
      go_wp2
      go_ret
      exact ⟨rfl, Hn2.out.then hn3⟩
end Go.Proofs.YtjihbkmbbcdnfaaDoor
