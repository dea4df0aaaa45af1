/-
  The walk of the law FnWriteRunes.
-/
import Derived.Test.YtjihbkmbbcdnfaaDoorPureW7
import Derived.Test.YtjihbkmbbcdnfaaDoorEnc
import Derived.Test.YtjihbkmbbcdnfaaDoorLawWriteStrings
namespace Go.Proofs.YtjihbkmbbcdnfaaDoor
open Go.RowKit

def KAInv (w : World) (rs : List Int) (g : Nat) (v5 v6 i : Value) (wr : World) : Prop :=
  ∃ (k : Nat) (a1 a2 : Option Addr) (c1 c2 n6 : Nat) (x : List UInt8), k ≤ rs.length ∧ i = .int .i64 k ∧ v5 = .slice a1 k c1 ∧ v6 = .slice a2 n6 c2 ∧ n6 = x.length ∧ x = runesB (rs.take k) ∧ wr.ownsRow w.heap.size 3 1 v5 k (List.replicate k (.int .i64 2)) ∧ wr.ownsRow w.heap.size 5 1 v6 n6 (bytesV x) ∧
    (∀ i, v5.ownBlock = some i → v6.ownBlock ≠ some i) ∧ New w wr ∧ g = rs.length - k

theorem runesB_take_le (rs : List Int) (k : Nat) : (runesB (rs.take k)).length ≤ 4 * rs.length := by
  have h1 := runesB_length (rs.take k)
  have h2 : (rs.take k).length ≤ rs.length := by simp [List.length_take]; omega
  omega

set_option maxRecDepth 100000 in
set_option maxHeartbeats 4000000 in
theorem walkFnWriteRunes (w : World) (B0 : Nat) (ad : Nat → Addr) (hE : Errs w B0 ad) (hB0 : B0 ≤ w.heap.size) (n : Int) (v : Value) (rs : List Int) (h1 : -32768 ≤ n) (h2 : n ≤ 32767)
    (hv : IntsAt w v rs ∧ ∀ r ∈ rs, -9223372036854775808 ≤ r ∧ r ≤ 9223372036854775807) (hall : rs.length ≤ 1048576) :
    Calls Tryd.prog 7 #[.int .i16 n, v] w fun e w' => e = .returned (.bool true) ∧ New w w' := by
  obtain ⟨hv, hvb⟩ := hv
  obtain ⟨av, cv, rfl, hm⟩ := hv.len
  obtain ⟨i0, hi, hz0, hz1, hz2⟩ := info_parts infoIntA
  obtain ⟨i1, hx, hx0, hx1, hx2⟩ := info_parts infoByte
  obtain ⟨j0, hj, hy0, hy1, hy2⟩ := info_parts infoCall
  have HV := Lib.hid hv
  have HE := Lib.hid hE
  have H0 : Hid (KAInv w rs rs.length (.slice none 0 0) (.slice none 0 0) (.int .i64 0) w) := ⟨0, none, none, 0, 0, 0, [], Nat.zero_le _, rfl, rfl, rfl, rfl, rfl, by simpa using World.ownsRow_nil w w.heap.size 3 1, by simpa [bytesV] using World.ownsRow_nil w w.heap.size 5 1, (fun i e => by cases e), Keep.refl _ _, rfl⟩
  have hwb := wsize_bounds n h2
  clear hv hE hvb
  go_enter Tryd.func7, Tryd.ntmps7
  go_wp2_with fail
  go_loopg [5, 6, 16, 8] rs.length (fun g v5 v6 i x8 wr => KAInv w rs g v5 v6 i wr)
  case atStart => exact H0.out
  case round =>
    obtain ⟨k, a1, a2, c1, c2, n6, x, hk, rfl, rfl, rfl, hn6, hxx, ho1, ho2, hne, hnw, rfl⟩ := hrel
    have hx4 : n6 ≤ 4 * rs.length := by rw [hn6, hxx]; exact runesB_take_le rs k
    by_cases hlt : k < rs.length
    · obtain ⟨bk, ok, rfl, ck⟩ := (IntsAt.new HV.out hnw).cell hlt
      have hlt' : (k : Int) < rs.length := by omega
      obtain ⟨rn, hrn⟩ : ∃ rn, rn = rs.getD k 0 := ⟨_, rfl⟩
      rw [← hrn] at ck
      obtain ⟨rr, hrr⟩ : ∃ rr : Int, rr = i32of rn := ⟨_, rfl⟩
      have hib := i32of_bounds rn
      rw [← hrr] at hib
      have Hrr := Lib.hid hrr
      obtain ⟨m, hm⟩ : ∃ m, (runeB rr).length = m := ⟨_, rfl⟩
      have hmb := runeB_length rr
      rw [hm] at hmb
      have Hm := Lib.hid hm
      have Hbl : Hid ((bytesV (runeB rr)).length = m) := by show _ = _; rw [bytesV_length, hm]
      have Hrn := Lib.hid hrn
      have hbase := hnw.size
      have Ho1 : Hid ((wr.alloc (.cells #[.int .i64 2] 3)).ownsRow w.heap.size 3 1 (.slice a1 k c1) k (List.replicate k (.int .i64 2))) := ho1.alloc _
      have Ho2 := Lib.hid ho2
      have HO1 := Lib.hid ho1
      have Hne := Lib.hid hne
      have Hnw := Lib.hid hnw
      have Hn6 := Lib.hid hn6
      have Hxx := Lib.hid hxx
      have HE0 : Hid (∀ ad', some (⟨wr.heap.size, 0, none⟩ : Addr) = some ad' → CellsAt (wr.alloc (.cells #[.int .i64 2] 3)) ad' [.int .i64 2]) := by
        intro ad' e' j u hu
        cases e'
        rw [addr_add, Nat.zero_add]
        exact (cell_new wr #[.int .i64 2] 3 j).trans (by simpa using hu)
      have HE1 : Hid (∀ u ∈ [(Value.int .i64 2)], u.oneCell' = true) := by intro u hu; simp at hu; subst hu; rfl
      clear ho1 ho2 hne hnw hn6 hxx hm hrn hrr
      go_wp2_with (at_builtin; refine wpList_append_row rfl _ _ 40 rfl w.heap.size 3 i0 (.int .i64 0) 1 8 Tryd.underlying40 hi hz0 hz1 hz2 (by rfl) (by decide) _ k (List.replicate k (.int .i64 2)) rfl Ho1.out (some ⟨wr.heap.size, 0, none⟩) 1 1 [.int .i64 2] (by rfl) (by intro e; cases e) (by rfl) HE0.out HE1.out (by unfold maxLen; omega) (by omega) (by simp; omega) ?_)
      intro a3 c3 w3 ho3 hg3 hb3
      have hk3 : Keep (fun i => (Value.slice a1 k c1).ownBlock = some i) wr w3 := ((Keep.refl _ wr).alloc _).trans ((Keep.refl (fun i => (Value.slice a1 k c1).ownBlock = some i) _).grown hg3 (fun i hi => .inl hi)) (fun _ _ e => e)
      have Hk3 := Lib.hid hk3
      have hs3 := hk3.size
      have Ho3 := Lib.hid ho3
      have Hb3 := Lib.hid hb3
      clear ho3 hg3 hb3 hk3
      go_wp2_with fail
      rw [wrap32_i32, ← Hrr.out]
      refine (encoded_new _ rr hib.1 hib.2 m Hm.out).mono ?_
      rintro e w4 ⟨rfl, hz4, hc4, hn4⟩
      have Hn4 := Lib.hid hn4
      have HE0' := Lib.hid hc4
      have Ho2' : Hid (w4.ownsRow w.heap.size 5 1 (.slice a2 n6 c2) n6 (bytesV x)) := ownsRow_keep (ownsRow_keep Ho2.out Hk3.out (fun i hi e => Hne.out i e hi)) hn4 (fun _ _ f => f)
      have HB1 : Hid (∀ u ∈ bytesV (runeB rr), u.oneCell' = true) := bytesV_one _
      have hb4 : w.heap.size ≤ w4.heap.size := by omega
      have Hbl1 : Hid ((bytesV (runeB rr)).length = m * 1) := by show _ = _; rw [Hbl.out, Nat.mul_one]
      have hby4 : (n6 + m) * 1 ≤ 140737488355328 := by omega
      have hml4 : n6 + m ≤ maxLen := by unfold maxLen; omega
      have Hby4 := Lib.hid hby4
      have Hml4 := Lib.hid hml4
      clear hc4 hn4 hby4 hml4
      go_wp2_with (at_builtin; refine wpList_append_row rfl _ _ 27 rfl w.heap.size 5 i1 (.int .u8 0) 1 1 Tryd.underlying27 hx hx0 hx1 hx2 (by rfl) (by decide) _ n6 (bytesV x) rfl Ho2'.out (some ⟨w3.heap.size, 0, none⟩) m m (bytesV (runeB rr)) (by rfl) (by intro e; cases e) Hbl1.out HE0'.out HB1.out Hml4.out Hby4.out hb4 ?_)
      intro a5 c5 w5 ho5 hg5 hb5
      have H5 : Hid (KAInv w rs (rs.length - (k + 1)) (.slice a3 (k + 1) c3) (.slice a5 (n6 + m) c5) (.int .i64 ((k : Int) + 1)) w5) := by
        have hk5 : Keep (fun i => (Value.slice a2 n6 c2).ownBlock = some i) w4 w5 := (Keep.refl _ w4).grown hg5 (fun i hi => .inl hi)
        have hlt2 : ∀ i, (Value.slice a2 n6 c2).ownBlock = some i → i < wr.heap.size := fun i hi => (Ho2.out.lt i hi).2
        have hlt3 : ∀ i, (Value.slice a3 (k + 1) c3).ownBlock = some i → i < w3.heap.size := fun i hi => (Ho3.out.lt i hi).2
        have hb3' : ∀ i, (Value.slice a3 (k + 1) c3).ownBlock = some i → (Value.slice a1 k c1).ownBlock = some i ∨ i = wr.heap.size + 1 := fun i hi => by
          rcases Hb3.out i hi with h | h
          · exact .inl h
          · first | exact .inr h | (right; rw [h]; simp)
        have hne35 : ∀ i, (Value.slice a3 (k + 1) c3).ownBlock = some i → (Value.slice a2 n6 c2).ownBlock ≠ some i := fun i hi e => by
          rcases hb3' i hi with h | h
          · exact Hne.out i h e
          · have := hlt2 i e; omega
        have hxs : x ++ runeB rr = runesB (rs.take (k + 1)) := by rw [runesB_succ rs k hlt, ← Hrn.out, ← Hrr.out, ← Hxx.out]
        refine ⟨k + 1, a3, a5, c3, c5, n6 + m, x ++ runeB rr, hlt, by rw [show (((k + 1 : Nat)) : Int) = (k : Int) + 1 by omega], rfl, rfl, by rw [List.length_append, Hm.out, Hn6.out], hxs, ?_, ?_, fun i hi e => ?_, ?_, rfl⟩
        · rw [replV_snoc]; exact ownsRow_keep (ownsRow_keep Ho3.out Hn4.out (fun _ _ f => f)) hk5 (fun i hi e => hne35 i hi e)
        · rw [show bytesV (x ++ runeB rr) = bytesV x ++ bytesV (runeB rr) from by simp [bytesV]]; exact ho5
        · rcases hb5 i e with h | h
          · exact hne35 i hi h
          · have h7 := hlt3 i hi; omega
        · have n1 : New w w3 := Hnw.out.trans Hk3.out (fun i hi e => by have := (HO1.out.lt i e).1; omega)
          exact (n1.then Hn4.out).trans hk5 (fun i hi e => by have := (Ho2.out.lt i e).1; omega)
      clear ho5 hg5 hb5
      go_wp2
      go_roundg (rs.length - (k + 1))
      case measure => omega
      case rel => exact H5.out
    · obtain rfl : k = rs.length := by omega
      have hnl : ¬ ((rs.length : Int) < rs.length) := by omega
      rw [List.take_length] at hxx
      rw [replV_ints] at ho1
      have HI1 : Hid (IntsAt wr (.slice a1 rs.length c1) (List.replicate rs.length 2)) := ownsRow_rowAt ho1
      have HB2 : Hid (BytesAt wr (.slice a2 n6 c2) x) := ownsRow_rowAt ho2
      have HN0 := Lib.hid hnw
      have HVr := Lib.hid (IntsAt.new HV.out hnw)
      have Hn6 := Lib.hid hn6
      have Hxx := Lib.hid hxx
      clear ho1 ho2 hne hnw hlt hn6 hxx
      have hkl : (List.replicate rs.length (2 : Int)).length = rs.length := by simp
      have Hkl := Lib.hid hkl
      clear hkl
      go_wp2_with fail
      refine (writes_n _ _ _ _ (List.replicate rs.length 2) [] rs rs.length Hkl.out HI1.out (parts_nil _) HVr.out (by omega) (by simp [joined])).mono ?_
      rintro e wA ⟨xa, xc, bvs, rfl, hcoA, hnA⟩
      have HcoA := Lib.hid hcoA
      have HnA := Lib.hid hnA
      have hlenA : (writesR (List.replicate rs.length 2) [] rs).length = rs.length := by rw [writesR_length]; simp
      have HlenA := Lib.hid hlenA
      have hzA := hnA.size
      have HX5 : Hid ((wA.alloc (.cells (oneC 4) 44)).ownsRow wr.heap.size 44 4 (.slice xa rs.length xc) rs.length (callsV (writesR (List.replicate rs.length 2) [] rs) bvs)) := by
        have h8 := hcoA.own
        rw [hlenA] at h8
        exact h8.alloc _
      have HE0 := Lib.hid (oneC_cells wA 4)
      unfold oneC at HX5 HE0
      clear hcoA hnA hlenA
      go_wp2_with (at_builtin; refine wpList_append_row rfl _ _ 41 rfl wr.heap.size 44 j0 (.agg #[.int .i64 0, .int .i64 0, .int .u8 0, .slice none 0 0]) 4 48 Tryd.underlying41 hj hy0 hy1 hy2 (by rfl) (by decide) _ rs.length (callsV (writesR (List.replicate rs.length 2) [] rs) bvs) rfl HX5.out (some ⟨wA.heap.size, 0, none⟩) 1 1 (oneC 4).toList (by rfl) (by intro e; cases e) (by rfl) HE0.out (oneC_one 4) (by unfold maxLen; omega) (by omega) (by simp; omega) ?_)
      intro ya yc wB hoB hgB hbB
      have hnB0 : New wA (wA.alloc (.cells (oneC 4) 44)) := (Keep.refl _ _).alloc _
      have hcoB : CallsOwn wB wr.heap.size (.slice ya (rs.length + 1) yc) (writesR (List.replicate rs.length 2) [] rs ++ [callK 4]) (bvs ++ List.replicate 1 (.slice none 0 0)) := by
        refine HcoA.out.more (ds := [callK 4]) hnB0 hgB (fun d hd => by simp at hd; subst hd; rfl) ?_ (fun i hi => ?_)
        · rw [HlenA.out]; exact hoB
        · rcases hbB i hi with h | h
          · exact .inl h
          · first | exact .inr h | (right; rw [h]; simp [oneC])
      have hkB : New wr wB := (HnA.out.then hnB0).trans ((Keep.refl (fun i => (Value.slice xa rs.length xc).ownBlock = some i) _).grown hgB (fun i hi => .inl hi)) (fun i hi e => by have := (HcoA.out.own.lt i e).1; omega)
      have HNB0 := Lib.hid hkB
      have HcsB := Lib.hid hcoB.calls
      have hcw : callsW (writesR (List.replicate rs.length 2) [] rs ++ [callK 4]) ≤ 1099511627776 := by
        rw [callsW_append, callsW_runes]
        simp [callsW, callK]; omega
      have hcl : (writesR (List.replicate rs.length 2) [] rs ++ [callK 4]).length ≤ 1099511627776 := by
        rw [List.length_append, HlenA.out]; simp; omega
      have HEB := Lib.hid (HE.out.keep (HN0.out.then hkB) (fun _ _ f => f))
      have hbB1 : B0 ≤ wB.heap.size := by have := (HN0.out.then hkB).size; omega
      clear hoB hgB hbB hnB0 hcoB hkB
      go_wp2_with fail
      refine (writerRun_any _ B0 ad HEB.out hbB1 n n6 0 _ _ HcsB.out h1 h2 (by omega) (by omega) (by omega) (by omega) hcw hcl).mono ?_
      rintro e wC ⟨outs, st, vo, vx, vy, hruns, rfl, hoC, hxg, hyy, hnC⟩
      rw [Hn6.out, Hxx.out] at hruns
      obtain ⟨p1, p2, p3⟩ := runes_run hwb hruns
      rw [p1] at hoC
      rw [p2, ← Hxx.out] at hxg
      obtain ⟨oa, oc, rfl⟩ := ownsRow_slice hoC
      have HoC := Lib.hid hoC
      have Hx := Lib.hid hxg
      have Hp1 := Lib.hid p1
      have Hp3 := Lib.hid p3
      have HNB := Lib.hid (HNB0.out.then hnC)
      have HB3 : Hid (BytesAt wC (.slice a2 n6 c2) x) := HB2.out.new (HNB0.out.then hnC)
      have hxl : x.length ≤ 9223372036854775807 := by rw [← Hn6.out]; omega
      clear hruns hoC hxg hyy hnC p1 p2 p3 HcsB hcw hcl
      go_wp2_with fail
      refine (equal_gen _ _ _ x x Hx.out HB3.out hxl true (by simp)).mono ?_
      rintro e wD ⟨rfl, hnD⟩
      have HND := Lib.hid ((HN0.out.then HNB.out).then hnD)
      have HVd := Lib.hid (IntsAt.new HVr.out (HNB.out.then hnD))
      have HoD : Hid (wD.ownsRow wB.heap.size 50 5 (.slice oa (rs.length + 1) oc) (rs.length + 1) (outsV outs)) := ownsRow_keep HoC.out hnD (fun _ _ f => f)
      have HL0 : Hid (SoInv wD rs.length rs.length (.int .i64 0) wD) := ⟨0, Nat.zero_le _, rfl, Keep.refl _ _, rfl⟩
      clear hnD
      go_wp2_with fail
      generalize hN : rs.length + 1 = N at HoD ⊢
      have HNn := Lib.hid hN
      clear hN
      go_loopg [59, 12, 13] rs.length (fun g i x12 x13 wr => SoInv wD rs.length g i wr)
      case atStart => exact HL0.out
      case round =>
        obtain ⟨k, hk, rfl, hnw, rfl⟩ := hrel
        by_cases hlt : k < rs.length
        · obtain ⟨bk, ok, rfl, ck⟩ := (IntsAt.new HVd.out hnw).cell hlt
          obtain ⟨rn, hrn⟩ : ∃ rn, rn = rs.getD k 0 := ⟨_, rfl⟩
          have hok := Hp3.out k hlt
          rw [← hrn] at ck hok
          obtain ⟨rr, hrr⟩ : ∃ rr : Int, rr = i32of rn := ⟨_, rfl⟩
          have hib := i32of_bounds rn
          rw [← hrr] at hib hok
          have Hrr := Lib.hid hrr
          obtain ⟨m, hm⟩ : ∃ m, (runeB rr).length = m := ⟨_, rfl⟩
          rw [hm] at hok
          obtain ⟨g1, d1, e1, q1, r1⟩ := outs_at (by rw [Hp1.out, HNn.out]; exact ownsRow_keep HoD.out hnw (fun _ _ f => f)) hok
          simp only [Value.slice.injEq] at e1
          obtain ⟨rfl, -, rfl⟩ := e1
          have s1 := r1 1 (.int .i64 m) rfl
          have s4 := r1 4 (.int .i64 0) rfl
          have hlt' : (k : Int) < rs.length := by omega
          have hlt1 : (k : Int) < N := by have := HNn.out; omega
          have hk0 : (0 : Int) ≤ k := by omega
          have n1 : ((m : Int) != (m : Int)) = false := by simp
          have Hm := Lib.hid hm
          have Hnw := Lib.hid hnw
          have HS := Lib.hid (fun (w' : World) (h : New wr.drew w') => (show w'.cell? ⟨g1, k * 5 + 1, none⟩ = some (.int .i64 m) ∧ w'.cell? ⟨g1, k * 5 + 4, none⟩ = some (.int .i64 0) from ⟨New.cellAt h s1, New.cellAt h s4⟩))
          have hwa : IntKind.i32.wrap rn = rr := by rw [hrr, IntKind.wrap_i32]; unfold i32of; omega
          have hwb' : wrap32 rn = rr := by rw [hrr, wrap32_i32]
          clear r1 hnw hok hm hrn hrr
          go_wp2_with fail
          go_region_held3 (fun w' => w'.cell? ⟨g1, k * 5 + 1, none⟩ = some (.int .i64 m) ∧ w'.cell? ⟨g1, k * 5 + 4, none⟩ = some (.int .i64 0))
            (first | exact ⟨s1, s4⟩ | exact HS.out _ hn1)
            (first | (go_at_call 27; (with_reducible refine (encoded_new _ rr hib.1 hib.2 m Hm.out).mono ?_); rintro e w1 ⟨rfl, hz1, hc1, hn1⟩))
          rename_i hh
          have HN : Hid (New wD w1) := (Hnw.out.drew).then hn1
          clear hh HS hn1 hc1 hz1
          go_wp2
          go_roundg (rs.length - (k + 1))
          case measure => omega
          case rel => exact ⟨k + 1, hlt, by go_num, HN.out, rfl⟩
        · obtain rfl : k = rs.length := by omega
          have hnl : ¬ ((rs.length : Int) < rs.length) := by omega
          have Hnw := Lib.hid (HND.out.then hnw)
          clear hnw
          go_wp2
          go_ret
          exact ⟨rfl, Hnw.out⟩
end Go.Proofs.YtjihbkmbbcdnfaaDoor
