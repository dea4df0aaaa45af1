/-
  The law's own asked: the bytes that a call wants to write.
-/
import Derived.Test.YtjihbkmbbcdnfaaDoorPureW5
import Derived.Test.YtjihbkmbbcdnfaaDoorEnc
namespace Go.Proofs.YtjihbkmbbcdnfaaDoor
open Go.RowKit

theorem bytes_nil (w : World) : BytesAt w (.slice none 0 0) [] := ⟨none, 0, by simp [bytesV], by simp [bytesV], by unfold maxLen; omega, fun _ => rfl, fun ad e => by cases e⟩

set_option maxRecDepth 100000 in
set_option maxHeartbeats 4000000 in
theorem asked_any (w : World) (c : CallR) (bv : Value) (hb : BytesAt w bv c.bytes) :
    Calls Tryd.prog 25 #[.agg #[.int .i64 c.kind, .int .i64 c.n, .int .u8 (c.delim.toNat : Int), bv]] w fun e w' => ∃ v, e = .returned v ∧ BytesAt w' v (ask c) ∧ New w w' := by
  obtain ⟨kd, rn, u, p⟩ := c
  obtain ⟨ab, cb, rfl, hl1, hl2, _⟩ := id hb
  rw [bytesV_length] at hb ⊢
  have HB := Lib.hid hb
  have b0 := u.toNat_lt
  obtain ⟨rr, hrr⟩ : ∃ rr : Int, rr = i32of rn := ⟨_, rfl⟩
  have hib := i32of_bounds rn
  rw [← hrr] at hib
  have Hrr := Lib.hid hrr
  have HN : Hid (New w (w.alloc (.cells #[.int .i64 kd, .int .i64 rn, .int .u8 (u.toNat : Int), .slice ab p.length cb] 44))) := (Keep.refl _ w).alloc _
  clear hb hl1 hl2 hrr
  go_enter Tryd.func25, Tryd.ntmps25
  by_cases h0 : kd = 0
  · subst h0
    go_wp2
    go_ret
    refine ⟨_, rfl, ?_, HN.out⟩
    show BytesAt _ _ p
    exact HB.out.new HN.out
  by_cases h3 : kd = 3
  · subst h3
    go_wp2
    go_ret
    refine ⟨_, rfl, ?_, HN.out⟩
    show BytesAt _ _ p
    exact HB.out.new HN.out
  by_cases h1 : kd = 1
  · subst h1
    have HC : Hid (BytesAt ((w.alloc (.cells #[.int .i64 1, .int .i64 rn, .int .u8 (u.toNat : Int), .slice ab p.length cb] 44)).alloc (.cells #[.int .u8 (u.toNat : Int)] 5)) (.slice (some ⟨w.heap.size + 1, 0, none⟩) 1 1) [u]) := by
      have h := cells_encoded (w.alloc (.cells #[.int .i64 1, .int .i64 rn, .int .u8 (u.toNat : Int), .slice ab p.length cb] 44)) (bytesV [u])
      rw [show (w.alloc (.cells #[.int .i64 1, .int .i64 rn, .int .u8 (u.toNat : Int), .slice ab p.length cb] 44)).heap.size = w.heap.size + 1 by simp] at h
      exact ⟨_, 1, rfl, Nat.le_refl _, by unfold maxLen; omega, (fun e => by cases e), fun ad e => h ad e⟩
    go_wp2
    go_ret
    refine ⟨_, rfl, ?_, ?_⟩
    · show BytesAt _ _ [u]
      exact HC.out
    · exact HN.out.alloc _
  by_cases h2 : kd = 2
  · subst h2
    obtain ⟨m, hm⟩ : ∃ m, (runeB rr).length = m := ⟨_, rfl⟩
    have hmb := runeB_length rr
    rw [hm] at hmb
    have Hm := Lib.hid hm
    clear hm
    go_wp2_with fail
    rw [wrap32_i32, ← Hrr.out]
    refine (encoded_new _ rr hib.1 hib.2 m Hm.out).mono ?_
    rintro e w4 ⟨rfl, hz4, hc4, hn4⟩
    have HN4 := Lib.hid (HN.out.then hn4)
    have HB4 : Hid (BytesAt w4 (.slice (some ⟨(w.alloc (.cells #[.int .i64 2, .int .i64 rn, .int .u8 (u.toNat : Int), .slice ab p.length cb] 44)).heap.size, 0, none⟩) m m) (runeB rr)) := by
      have hl : (bytesV (runeB rr)).length = m := by rw [bytesV_length]; exact Hm.out
      refine ⟨_, m, by rw [hl], by rw [hl]; exact Nat.le_refl _, by unfold maxLen; omega, (fun e => by cases e), fun ad e => hc4 ad e⟩
    clear hc4 hn4
    go_wp2
    go_ret
    refine ⟨_, rfl, ?_, HN4.out⟩
    show BytesAt _ _ (runeB (i32of rn))
    rw [← Hrr.out]
    simpa using HB4.out
  · go_wp2
    go_ret
    refine ⟨_, rfl, ?_, HN.out⟩
    unfold ask
    simp only [h0, h1, h2, h3, or_self, if_false]
    exact bytes_nil _
end Go.Proofs.YtjihbkmbbcdnfaaDoor
