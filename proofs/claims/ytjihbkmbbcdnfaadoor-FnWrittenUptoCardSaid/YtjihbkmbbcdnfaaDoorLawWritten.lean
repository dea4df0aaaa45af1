/-
  The walk of the law FnWritten.
-/
import Derived.Test.YtjihbkmbbcdnfaaDoorPureW9
import Derived.Test.YtjihbkmbbcdnfaaDoorBegins
import Derived.Test.YtjihbkmbbcdnfaaDoorWSize
import Derived.Test.YtjihbkmbbcdnfaaDoorLawSticky
namespace Go.Proofs.YtjihbkmbbcdnfaaDoor
open Go.RowKit

/-- The cells of four calls. -/
def four (x y z t : Int) : Array Value := #[.int .i64 x, .int .i64 0, .int .u8 0, .slice none 0 0, .int .i64 y, .int .i64 0, .int .u8 0, .slice none 0 0, .int .i64 z, .int .i64 0, .int .u8 0, .slice none 0 0, .int .i64 t, .int .i64 0, .int .u8 0, .slice none 0 0]
theorem four_calls (x y z t : Int) : callsV [callK x, callK y, callK z, callK t] (List.replicate 4 (.slice none 0 0)) = (four x y z t).toList := rfl
theorem four_one (x y z t : Int) : ∀ u ∈ (four x y z t).toList, u.oneCell' = true := by
  intro u hu
  simp [four] at hu
  rcases hu with rfl | rfl | rfl | rfl | rfl | rfl | rfl | rfl | rfl | rfl | rfl | rfl | rfl | rfl | rfl | rfl <;> rfl
theorem four_cells (w : World) (x y z t : Int) : ∀ ad', some (⟨w.heap.size, 0, none⟩ : Addr) = some ad' → CellsAt (w.alloc (.cells (four x y z t) 44)) ad' (four x y z t).toList := by
  intro ad' e' j u hu
  cases e'
  rw [addr_add, Nat.zero_add]
  exact (cell_new w (four x y z t) 44 j).trans (by simpa using hu)

theorem asked_call (w : World) (kd rn : Int) (u : UInt8) (p : List UInt8) (bv : Value) (m : Nat) (hb : BytesAt w bv p) (hm : (ask ⟨kd, rn, u, p⟩).length = m) :
    Calls Tryd.prog 25 #[.agg #[.int .i64 kd, .int .i64 rn, .int .u8 (u.toNat : Int), bv]] w fun e w' => ∃ a c, e = .returned (.slice a m c) ∧ New w w' := by
  refine (asked_any w ⟨kd, rn, u, p⟩ bv hb).mono ?_
  rintro e w' ⟨v, rfl, hv, hn⟩
  obtain ⟨a, c, rfl, -⟩ := hv
  rw [bytesV_length, hm]
  exact ⟨a, c, rfl, hn⟩

set_option maxRecDepth 100000 in
set_option maxHeartbeats 4000000 in
theorem walkFnWritten (w : World) (B0 : Nat) (ad : Nat → Addr) (hE : Errs w B0 ad) (hB0 : B0 ≤ w.heap.size) (n : Int) (v1 v2 v3 : Value) (ks : List Int) (ps : List (List UInt8)) (rs : List Int) (h1 : -32768 ≤ n) (h2 : n ≤ 32767)
    (hv1 : IntsAt w v1 ks ∧ ∀ z ∈ ks, -9223372036854775808 ≤ z ∧ z ≤ 9223372036854775807) (hv2 : PartsAt w v2 ps) (hv3 : IntsAt w v3 rs ∧ ∀ z ∈ rs, -9223372036854775808 ≤ z ∧ z ≤ 9223372036854775807)
    (hall : ks.length + ((joined ps).length + ps.length) + rs.length ≤ 1048576) :
    Calls Tryd.prog 10 #[.int .i16 n, v1, v2, v3] w fun e w' => e = .returned (.bool true) ∧ New w w' := by
  obtain ⟨hv1, hb1⟩ := hv1
  obtain ⟨hv3, _⟩ := hv3
  obtain ⟨a1, c1, rfl, m1⟩ := hv1.len
  obtain ⟨a2, c2, rfl, m2⟩ := hv2.len
  obtain ⟨a3, c3, rfl, m3⟩ := hv3.len
  obtain ⟨i1, hx, hx0, hx1, hx2⟩ := info_parts infoByte
  obtain ⟨j0, hj, hy0, hy1, hy2⟩ := info_parts infoCall
  have HV1 := Lib.hid hv1
  have HV2 := Lib.hid hv2
  have HV3 := Lib.hid hv3
  have HE := Lib.hid hE
  have Hb1 := Lib.hid hb1
  have H0 : Hid (KInv w ks 6 ks.length (.int .i64 0) w) := ⟨0, Nat.zero_le _, rfl, (fun x hx => by simp at hx), Keep.refl _ _, rfl⟩
  have hwb := wsize_bounds n h2
  clear hv1 hv2 hv3 hE hb1
  go_enter Tryd.func10, Tryd.ntmps10
  go_wp2_with fail
  go_loopg [26, 10] ks.length (fun g i x wr => KInv w ks 6 g i wr)
  case atStart => exact H0.out
  case round =>
    obtain ⟨k, hk, rfl, hks, hnw, rfl⟩ := hrel
    by_cases hlt : k < ks.length
    · obtain ⟨bk, ok, rfl, ck⟩ := (IntsAt.new HV1.out hnw).cell hlt
      have hlt' : (k : Int) < ks.length := by omega
      obtain ⟨kd, hkd⟩ : ∃ kd, kd = ks.getD k 0 := ⟨_, rfl⟩
      rw [← hkd] at ck
      have Hnw := Lib.hid hnw
      by_cases n0 : kd < 0
      · clear hks hkd hnw
        go_wp2
        go_ret
        exact ⟨rfl, Hnw.out⟩
      by_cases n4 : 6 < kd
      · clear hks hkd hnw
        go_wp2
        go_ret
        exact ⟨rfl, Hnw.out⟩
      have H5 : Hid (∀ x ∈ ks.take (k + 1), 0 ≤ x ∧ x ≤ 6) := by
        intro x hx
        rw [List.take_add_one, List.getElem?_eq_getElem hlt] at hx
        rcases List.mem_append.1 hx with hx | hx
        · exact hks x hx
        · have e : x = kd := by rw [hkd, List.getD_eq_getElem?_getD, List.getElem?_eq_getElem hlt]; simpa using hx
          omega
      clear hks hkd hnw
      go_wp2
      go_roundg (ks.length - (k + 1))
      case measure => omega
      case rel => exact ⟨k + 1, hlt, by go_num, H5.out, Hnw.out, rfl⟩
    · obtain rfl : k = ks.length := by omega
      have hnl : ¬ ((ks.length : Int) < ks.length) := by omega
      rw [List.take_length] at hks
      have Hks := Lib.hid hks
      have HN0 := Lib.hid hnw
      have HW1 := Lib.hid (IntsAt.new HV1.out hnw)
      have HW2 := Lib.hid (HV2.out.new hnw)
      have HW3 := Lib.hid (IntsAt.new HV3.out hnw)
      clear hks hnw hlt
      go_wp2_with fail
      refine (writes_n _ _ _ _ ks ps rs ks.length rfl HW1.out HW2.out HW3.out (by omega) (by omega)).mono ?_
      rintro e wA ⟨xa, xc, bvs, rfl, hcoA, hnA⟩
      have HcoA := Lib.hid hcoA
      have HnA := Lib.hid hnA
      have hlenA : (writesR ks ps rs).length = ks.length := by rw [writesR_length]
      have HlenA := Lib.hid hlenA
      have hzA := hnA.size
      have HX5 : Hid ((wA.alloc (.cells (four 6 5 4 6) 44)).ownsRow wr.heap.size 44 4 (.slice xa ks.length xc) ks.length (callsV (writesR ks ps rs) bvs)) := by
        have h8 := hcoA.own
        rw [hlenA] at h8
        exact h8.alloc _
      have HE0 := Lib.hid (four_cells wA 6 5 4 6)
      unfold four at HX5 HE0
      clear hcoA hnA hlenA
      go_wp2_with (at_builtin; refine wpList_append_row rfl _ _ 41 rfl wr.heap.size 44 j0 (.agg #[.int .i64 0, .int .i64 0, .int .u8 0, .slice none 0 0]) 4 48 Tryd.underlying41 hj hy0 hy1 hy2 (by rfl) (by decide) _ ks.length (callsV (writesR ks ps rs) bvs) rfl HX5.out (some ⟨wA.heap.size, 0, none⟩) 4 4 (four 6 5 4 6).toList (by rfl) (by intro e; cases e) (by rfl) HE0.out (four_one 6 5 4 6) (by unfold maxLen; omega) (by omega) (by simp; omega) ?_)
      intro ya yc wB hoB hgB hbB
      have hnB0 : New wA (wA.alloc (.cells (four 6 5 4 6) 44)) := (Keep.refl _ _).alloc _
      have hcoB : CallsOwn wB wr.heap.size (.slice ya (ks.length + 4) yc) (writesR ks ps rs ++ [callK 6, callK 5, callK 4, callK 6]) (bvs ++ List.replicate 4 (.slice none 0 0)) := by
        refine HcoA.out.more (ds := [callK 6, callK 5, callK 4, callK 6]) hnB0 hgB (fun d hd => by simp at hd; rcases hd with rfl | rfl | rfl | rfl <;> rfl) ?_ (fun i hi => ?_)
        · rw [HlenA.out]; exact hoB
        · rcases hbB i hi with h | h
          · exact .inl h
          · first | exact .inr h | (right; rw [h]; simp [four])
      have hkB : New wr wB := (HnA.out.then hnB0).trans ((Keep.refl (fun i => (Value.slice xa ks.length xc).ownBlock = some i) _).grown hgB (fun i hi => .inl hi)) (fun i hi e => by have := (HcoA.out.own.lt i e).1; omega)
      obtain ⟨fu, hfu⟩ : ∃ fu, fu = writesR ks ps rs ++ [callK 6, callK 5, callK 4, callK 6] := ⟨_, rfl⟩
      obtain ⟨cs1, hcs1⟩ : ∃ cs1, cs1 = writesR ks ps rs ++ [callK 6, callK 5] := ⟨_, rfl⟩
      have hf1 : fu = cs1 ++ [callK 4, callK 6] := by rw [hfu, hcs1]; simp
      have hN : ks.length + 4 = fu.length := by rw [hfu, List.length_append, HlenA.out]; rfl
      have hM : fu.length = cs1.length + 2 := by rw [hf1]; simp
      rw [← hfu] at hcoB
      have hcw : callsW fu ≤ 1048576 * 5 + 16 := by
        rw [hfu, callsW_append]
        have := callsW_writes ks ps rs
        simp [callsW, callK]; omega
      rw [hN] at hcoB ⊢
      have hcallB := hcoB.calls
      have hcap : fu.length ≤ yc := by obtain ⟨_, _, _, e, q, _⟩ := id hcallB; simp only [Value.slice.injEq] at e; omega
      have HcsB := Lib.hid hcallB
      have Hc1 : Hid (CallsAt wB (.slice ya cs1.length yc) cs1) := by
        rw [hf1] at hcallB
        exact hcallB.upto
      have Hfu := Lib.hid hfu
      have Hcs1 := Lib.hid hcs1
      have Hf1 := Lib.hid hf1
      have HM := Lib.hid hM
      have hsub : (fu.length : Int) - 2 = cs1.length := by omega
      have hfl : fu.length ≤ 1048576 + 4 := by omega
      have hcl : cs1.length ≤ 1048576 + 4 := by omega
      have hc1w : (asks fu).length ≤ 1048576 * 5 + 16 := by
        have h8 := asks_le fu
        omega
      have Hc1w := Lib.hid hc1w
      have Hcw := Lib.hid hcw
      have HNB := Lib.hid (HN0.out.then hkB)
      have hbB1 : B0 ≤ wB.heap.size := by have := (HN0.out.then hkB).size; omega
      have hsl := slice_upto_any (P := Tryd.prog) 41 44 4 Tryd.underlying41 sizeCall ya fu.length yc cs1.length (by omega) .i64
      have HA0 : Hid (AllInv wB fu fu.length (.slice none 0 0) (.int .i64 0) wB) := ⟨0, none, 0, 0, [], Nat.zero_le _, rfl, rfl, rfl, rfl, by simpa [bytesV] using World.ownsRow_nil wB wB.heap.size 5 1, Keep.refl _ _, rfl⟩
      clear hoB hgB hbB hnB0 hcoB hkB hfu hcs1 hf1 hN hM hcw hc1w hcallB
      have Hsl := Lib.hid hsl
      have Hsub := Lib.hid hsub
      clear hsl hsub
      go_wp2_with fail
      go_loopg [12, 49, 14] fu.length (fun g v i x14 wr => AllInv wB fu g v i wr)
      case atStart => exact HA0.out
      case round =>
        obtain ⟨k, ao, co, nn, x, hk, rfl, rfl, hnn, hxx, hown, hnw, rfl⟩ := hrel
        have hxle : nn ≤ 1048576 * 5 + 16 := by rw [hnn, hxx]; have := asks_take_le fu k; have := Hc1w.out; omega
        by_cases hlt : k < fu.length
        · obtain ⟨y, hy⟩ : ∃ y, fu[k]? = some y := ⟨_, List.getElem?_eq_getElem hlt⟩
          obtain ⟨bc, oc, bv, rfl, hbv, hcell⟩ := (HcsB.out.new hnw).at hy
          obtain ⟨ab, cbv, rfl, _⟩ := id hbv
          rw [bytesV_length] at hbv hcell
          have e0 := hcell 0 (.int .i64 y.kind) rfl
          have e1 := hcell 1 (.int .i64 y.n) rfl
          have e2 := hcell 2 (.int .u8 (y.delim.toNat : Int)) rfl
          have e3 := hcell 3 (.slice ab y.bytes.length cbv) rfl
          rw [show oc + (k * 4 + 0) = oc + k * 4 by omega] at e0
          rw [show oc + (k * 4 + 1) = oc + k * 4 + 1 by omega] at e1
          rw [show oc + (k * 4 + 2) = oc + k * 4 + 2 by omega] at e2
          rw [show oc + (k * 4 + 3) = oc + k * 4 + 3 by omega] at e3
          have htk := asks_take_succ hy
          obtain ⟨q, hq⟩ : ∃ q, q = ask y := ⟨_, rfl⟩
          have hql : q.length ≤ 1048576 * 5 + 16 := by
            have h8 := asks_take_le fu (k + 1)
            have h9 := Hc1w.out
            rw [htk, List.length_append, ← hq] at h8
            omega
          have hn4 : New wr (wr.alloc (.cells #[.int .i64 y.kind, .int .i64 y.n, .int .u8 (y.delim.toNat : Int), .slice ab y.bytes.length cbv] 44)) := (Keep.refl _ _).alloc _
          have HBv := Lib.hid (hbv.new hn4)
          have HN4 := Lib.hid hn4
          have Hown := Lib.hid hown
          have Hnw := Lib.hid hnw
          have Hq := Lib.hid hq
          have Htk := Lib.hid htk
          have Hnn := Lib.hid hnn
          have Hxx := Lib.hid hxx
          have hbase := hnw.size
          have hlt' : (k : Int) < fu.length := by omega
          clear hcell hbv htk hn4 hown hnw hq hnn hxx hy
          go_wp2_with fail
          refine (asked_any _ y _ HBv.out).mono ?_
          rintro e w4 ⟨va, rfl, hb4, hn4⟩
          rw [← Hq.out] at hb4
          obtain ⟨aa, ca, rfl, _⟩ := id hb4
          rw [bytesV_length] at hb4 ⊢
          have Hpp := Lib.hid (RowAt.parts hb4)
          have HN5 := Lib.hid (HN4.out.then hn4)
          have hz4 := (HN4.out.then hn4).size
          have Ho2' : Hid (w4.ownsRow wB.heap.size 5 1 (.slice ao nn co) nn (bytesV x)) := ownsRow_keep Hown.out HN5.out (fun _ _ f => f)
          have hb5' : wB.heap.size ≤ w4.heap.size := by omega
          have Hbl1 : Hid ((bytesV q).length = q.length * 1) := by show _ = _; rw [bytesV_length, Nat.mul_one]
          have hby4 : (nn + q.length) * 1 ≤ 140737488355328 := by omega
          have hml4 : nn + q.length ≤ maxLen := by unfold maxLen; omega
          have Hby4 := Lib.hid hby4
          have Hml4 := Lib.hid hml4
          clear hb4 hn4 hby4 hml4
          go_wp2_with (at_builtin; refine wpList_append_row rfl _ _ 27 rfl wB.heap.size 5 i1 (.int .u8 0) 1 1 Tryd.underlying27 hx hx0 hx1 hx2 (by rfl) (by decide) _ nn (bytesV x) rfl Ho2'.out aa q.length ca (bytesV q) (by rfl) Hpp.out.2.2.1 Hbl1.out Hpp.out.2.2.2 (bytesV_one _) Hml4.out Hby4.out hb5' ?_)
          intro a5 c5 w5 ho5 hg5 hb5
          have H5 : Hid (AllInv wB fu (fu.length - (k + 1)) (.slice a5 (nn + q.length) c5) (.int .i64 ((k : Int) + 1)) w5) := by
            have hk5 : Keep (fun i => (Value.slice ao nn co).ownBlock = some i) w4 w5 := (Keep.refl _ w4).grown hg5 (fun i hi => .inl hi)
            refine ⟨k + 1, a5, c5, nn + q.length, x ++ q, hlt, by rw [show (((k + 1 : Nat)) : Int) = (k : Int) + 1 by omega], rfl, by rw [List.length_append, Hnn.out], by rw [Htk.out, Hxx.out, Hq.out], ?_, ?_, rfl⟩
            · rw [show bytesV (x ++ q) = bytesV x ++ bytesV q from by simp [bytesV]]; exact ho5
            · exact (Hnw.out.then HN5.out).trans hk5 (fun i hi e => by have := (Hown.out.lt i e).1; omega)
          clear ho5 hg5 hb5
          go_wp2
          go_roundg (fu.length - (k + 1))
          case measure => omega
          case rel => exact H5.out
        · obtain rfl : k = fu.length := by omega
          have hnl1 : ¬ ((fu.length : Int) < fu.length) := by omega
          rw [List.take_length] at hxx
          have hxa : asks (writesR ks ps rs) = x := by rw [hxx, Hfu.out, asks_append]; simp [asks, ask, callK]
          have Hxa := Lib.hid hxa
          have Hnn := Lib.hid hnn
          have Hown := Lib.hid hown
          have HcsC := Lib.hid (HcsB.out.new hnw)
          have HNr := Lib.hid (HNB.out.then hnw)
          have HEr := Lib.hid (HE.out.keep (HNB.out.then hnw) (fun _ _ f => f))
          have hbr : B0 ≤ wr.heap.size := by have := hnw.size; omega
          have Hnw := Lib.hid hnw
          have hcwf : callsW fu ≤ 1099511627776 := by have := Hcw.out; omega
          have hclf : fu.length ≤ 1099511627776 := by omega
          clear hxx hxa hnn hown hnw hlt
          go_wp2_with fail
          refine (writerRun_any _ B0 ad HEr.out hbr n nn 0 _ fu HcsC.out h1 h2 (by omega) (by omega) (by omega) (by omega) hcwf hclf).mono ?_
          rintro e wC ⟨outs, st, vo, vx, vy, hruns, rfl, hoC, hxg, hyg, hnC⟩
          have hlenO : outs.length = fu.length := hruns.length
          rw [hlenO] at hoC
          obtain ⟨oa, od, rfl⟩ := ownsRow_slice hoC
          have Hruns := Lib.hid hruns
          have HoC := Lib.hid hoC
          have Hxg := Lib.hid hxg
          have Hyg := Lib.hid hyg
          have HnC := Lib.hid hnC
          have HlenO := Lib.hid hlenO
          have HcsD := Lib.hid (Hc1.out.new (Hnw.out.then hnC))
          have HED := Lib.hid (HEr.out.keep hnC (fun _ _ f => f))
          have hbr2 : B0 ≤ wC.heap.size := by have := hnC.size; omega
          have hcw1 : callsW cs1 ≤ 1099511627776 := by
            have h9 : callsW cs1 ≤ callsW fu := by rw [Hf1.out, callsW_append]; omega
            omega
          have hcl1 : cs1.length ≤ 1099511627776 := by omega
          have hsl := Hsl.out
          have hsub := Hsub.out
          clear hruns hoC hxg hyg hnC hlenO HcsC hcwf hclf
          go_wp2_with fail
          refine (writerRun_any _ B0 ad HED.out hbr2 n nn 0 _ cs1 HcsD.out h1 h2 (by omega) (by omega) (by omega) (by omega) hcw1 hcl1).mono ?_
          rintro e wD ⟨outs2, st2, vo2, vx2, vy2, hruns2, rfl, hoD, hxg2, hyg2, hnD⟩
          have hr1 := Hruns.out
          rw [Hfu.out, Hnn.out] at hr1
          rw [Hcs1.out, Hnn.out] at hruns2
          obtain ⟨p1, p2, p3, p4, m, p5, p6, p7, p8, p9, p10, p11⟩ := written_run hwb (kinds_writes Hks.out) Hxa.out hr1 hruns2
          rw [← Hfu.out] at p11
          rw [writesR_length] at p1 p2 p6 p7 p8
          have hxgD := Hxg.out.new hnD
          have hygD := Hyg.out.new hnD
          rw [p4] at hxgD
          rw [p3] at hygD
          obtain ⟨ga, gc, rfl, -⟩ := id hxgD
          obtain ⟨ha, hc, rfl, -⟩ := id hygD
          rw [bytesV_length, ← Hnn.out] at hxgD ⊢
          rw [show (bytesV ([] : List UInt8)).length = 0 from rfl]
          obtain ⟨ob, oe, rfl⟩ := ownsRow_slice hoD
          obtain ⟨z, hz⟩ : ∃ z, z = st2.got1 := ⟨_, rfl⟩
          rw [← hz] at hxg2 p9 p10
          obtain ⟨pa, pc, rfl, -⟩ := id hxg2
          rw [bytesV_length] at hxg2 ⊢
          generalize hl : z.length = l at hxg2 p9 p10 ⊢
          rw [p2]
          have hF : (fu.length : Int) = ks.length + 4 := by have := HlenO.out; omega
          generalize hN2 : ks.length + 2 = N2
          have g0 : ((fu.length : Int) != (ks.length : Int) + 4) = false := by simp; omega
          have g1' : ((N2 : Int) != (ks.length : Int) + 2) = false := by simp; omega
          have hoD1 : wD.ownsRow wr.heap.size 50 5 (.slice oa outs.length od) outs.length (outsV outs) := by rw [HlenO.out]; exact ownsRow_keep HoC.out hnD (fun _ _ f => f)
          obtain ⟨g1, d1, e1, -, s6⟩ := outs_at hoD1 p6
          simp only [Value.slice.injEq] at e1
          obtain ⟨rfl, -, rfl⟩ := e1
          obtain ⟨g2, d2, e2, -, s7⟩ := outs_at hoD1 p7
          simp only [Value.slice.injEq, Option.some.injEq, Addr.mk.injEq] at e2
          obtain ⟨⟨rfl, -, -⟩, -, -⟩ := e2
          obtain ⟨g3, d3, e3, -, s8⟩ := outs_at hoD1 p8
          simp only [Value.slice.injEq, Option.some.injEq, Addr.mk.injEq] at e3
          obtain ⟨⟨rfl, -, -⟩, -, -⟩ := e3
          obtain ⟨zs, hzs⟩ : ∃ zs, wsize n = zs := ⟨_, rfl⟩
          rw [hzs] at s7 p5 hwb
          have t6 := s6 1 (.int .i64 m) rfl
          have t7 := s7 1 (.int .i64 ((zs : Int) - m)) rfl
          obtain ⟨A, hA⟩ : ∃ A : Int, (zs : Int) - m = A := ⟨_, rfl⟩
          rw [hA] at t7
          have t8 := s8 1 (.int .i64 0) rfl
          obtain ⟨K1, hK1⟩ : ∃ K1, ks.length + 1 = K1 := ⟨_, rfl⟩
          obtain ⟨K3, hK3⟩ : ∃ K3, ks.length + 3 = K3 := ⟨_, rfl⟩
          rw [hK1] at t7
          rw [hK3] at t8
          have hK1i : IntKind.i64.wrap ((ks.length : Int) + 1) = (K1 : Int) := by rw [IntKind.wrap_i64]; omega
          have hK3i : IntKind.i64.wrap ((ks.length : Int) + 3) = (K3 : Int) := by rw [IntKind.wrap_i64]; omega
          have w4 : IntKind.i64.wrap ((ks.length : Int) + 4) = (ks.length : Int) + 4 := by rw [IntKind.wrap_i64]; omega
          have w5 : IntKind.i64.wrap ((ks.length : Int) + 2) = (ks.length : Int) + 2 := by rw [IntKind.wrap_i64]; omega
          have b0 : (ks.length : Int) < fu.length := by omega
          have b1 : (K1 : Int) < fu.length := by omega
          have b3 : (K3 : Int) < fu.length := by omega
          have g3 : ((m : Int) + A != (zs : Int)) = false := by simp; omega
          have hlm : (l : Int) + m = nn := by have := Hnn.out; omega
          have g4 : ((l : Int) + m != (nn : Int)) = false := by simp; omega
          have hA1 : -40000 ≤ A := by omega
          have hA2 : A ≤ 40000 := by omega
          have w1 : IntKind.i64.wrap ((m : Int) + A) = (m : Int) + A := by rw [show (m : Int) + A = zs by omega]; rw [IntKind.wrap_i64]; omega
          have w2 : IntKind.i64.wrap ((l : Int) + m) = (l : Int) + m := by rw [hlm]; rw [IntKind.wrap_i64]; omega
          have hln : l ≤ nn := by omega
          have Hzs := Lib.hid hzs
          have Hl := Lib.hid hl
          have Hp10 := Lib.hid p10
          have Hp11 := Lib.hid p11
          have Hxd := Lib.hid hxgD
          have Hpart := Lib.hid hxg2
          have HnD := Lib.hid (HnC.out.then hnD)
          have HownD : Hid (wD.ownsRow wB.heap.size 5 1 (.slice ao nn co) nn (bytesV x)) := ownsRow_keep Hown.out (HnC.out.then hnD) (fun _ _ f => f)
          have HBx : Hid (BytesAt wD (.slice ao nn co) x) := by
            have h8 := HownD.out
            rw [Hnn.out] at h8 ⊢
            exact ownsRow_rowAt h8
          have hnnb : nn ≤ 9223372036854775807 := by omega
          have HoD := Lib.hid hoD1
          have Hks2 : Hid (ks.length + 4 = fu.length) := by show _ = _; omega
          have HS := Lib.hid (fun (w' : World) (h : New wD.drew w') => (show w'.cell? ⟨g1, ks.length * 5 + 1, none⟩ = some (.int .i64 m) ∧ w'.cell? ⟨g1, K1 * 5 + 1, none⟩ = some (.int .i64 A) ∧ w'.cell? ⟨g1, K3 * 5 + 1, none⟩ = some (.int .i64 0) from ⟨New.cellAt h t6, New.cellAt h t7, New.cellAt h t8⟩))
          have HBy : Hid (BytesAt wD.drew (.slice ao nn co) x) := HBx.out
          have HXy : Hid (BytesAt wD.drew (.slice ga nn gc) x) := Hxd.out
          have HPy : Hid (BytesAt wD.drew (.slice pa l pc) z) := Hpart.out
          have Hxl : Hid (x.length ≤ 9223372036854775807) := by show _ ≤ _; rw [← Hnn.out]; exact hnnb
          have Hnx : Hid (x.length = nn) := Hnn.out.symm
          clear hF hlm hA hN2 hr1 hruns2 hxgD hygD hoD hoD1 hxg2 hyg2 hnD hz p1 p2 p3 p4 p6 p7 p8 p9 p10 p11 s6 s7 s8 hzs hl hK1 hK3 hsl hsub Hruns hcw1 hcl1 HcsD
          go_wp2_with fail
          simp only [List.append_eq, List.cons_append, List.nil_append]
          go_cut [153] (fun v wc => v = .bool false ∧ ∃ wG, wG = wc ∧ New wD wG)
          case first =>
            as_aux_lemma =>
              go_region_held3 (fun w' => w'.cell? ⟨g1, ks.length * 5 + 1, none⟩ = some (.int .i64 m) ∧ w'.cell? ⟨g1, K1 * 5 + 1, none⟩ = some (.int .i64 A) ∧ w'.cell? ⟨g1, K3 * 5 + 1, none⟩ = some (.int .i64 0))
                (first | exact ⟨t6, t7, t8⟩ | exact HS.out _ hnE | exact HS.out _ (hnE.then hnF) | exact HS.out _ ((hnE.then hnF).then hnG))
                (first | (go_at_call 23; (with_reducible refine (equal_gen _ _ _ x x HXy.out HBy.out Hxl.out true (by simp)).mono ?_); rintro e wE ⟨rfl, hnE⟩)
                       | (go_at_call 30; (with_reducible refine (writerSize_any n h1 h2 _ zs Hzs.out).mono ?_); rintro e wF ⟨rfl, hnF⟩)
                       | (go_at_call 31; (with_reducible refine (begins_at _ _ _ _ _ nn l x z (HBy.out.new (hnE.then hnF)) (HPy.out.new (hnE.then hnF)) Hnx.out Hl.out hln Hp10.out hnnb).mono ?_); rintro e wG ⟨rfl, hnG⟩))
              rename_i hh
              have HnG : Hid (New wD wG) := ((Keep.refl _ wD).drew.then ((hnE.then hnF).then hnG))
              clear hh HS hnE hnF hnG t6 t7 t8
              go_wp2_with fail
              go_meet
              exact ⟨rfl, _, rfl, HnG.out⟩
          case rest =>
            obtain ⟨rfl, wG, rfl, hnG⟩ := hcut
            have HnG := Lib.hid hnG
            have HND : Hid (New w wG) := (HNr.out.then HnD.out).then hnG
            have HoG : Hid (wG.ownsRow _ 50 5 (.slice (some ⟨g1, 0, none⟩) outs.length od) outs.length (outsV outs)) := ownsRow_keep HoD.out hnG (fun _ _ f => f)
            have HcsG := Lib.hid (HcsB.out.new (Hnw.out.then (HnD.out.then hnG)))
            have HL0 : Hid (SoInv wG fu.length fu.length (.int .i64 0) wG) := ⟨0, Nat.zero_le _, rfl, Keep.refl _ _, rfl⟩
            clear HS hnG t6 t7 t8 g0 g1' g3 g4 w1 w2 w4 w5 hA1 hA2 b0 b1 b3 hK1i hK3i
            as_aux_lemma =>
            go_wp2_with fail
            go_loopg [156, 22, 23] fu.length (fun g i x22 x23 wr => SoInv wG fu.length g i wr)
            case atStart => exact HL0.out
            case round =>
              obtain ⟨k, hk, rfl, hnw, rfl⟩ := hrel
              by_cases hlt : k < fu.length
              · obtain ⟨o, ho⟩ : ∃ o, outs[k]? = some o := ⟨_, List.getElem?_eq_getElem (by rw [HlenO.out]; exact hlt)⟩
                obtain ⟨y, hy⟩ : ∃ y, fu[k]? = some y := ⟨_, List.getElem?_eq_getElem hlt⟩
                obtain ⟨q1, q2⟩ := Hp11.out k o y ho hy
                obtain ⟨g4, d4, e4, -, r4⟩ := outs_at (ownsRow_keep HoG.out hnw (fun _ _ f => f)) ho
                simp only [Value.slice.injEq, Option.some.injEq, Addr.mk.injEq] at e4
                obtain ⟨⟨rfl, -, -⟩, -, -⟩ := e4
                obtain ⟨bc, oc, bv, rfl, hbv, hcell⟩ := (HcsG.out.new hnw).at hy
                obtain ⟨ab, cbv, rfl, _⟩ := id hbv
                obtain ⟨on, oe⟩ := o
                obtain rfl : oe = 0 := q1
                rw [bytesV_length] at hbv hcell
                obtain ⟨kd, rn, ud, pb⟩ := y
                have e0 := hcell 0 (.int .i64 kd) rfl
                have e1 := hcell 1 (.int .i64 rn) rfl
                have e2 := hcell 2 (.int .u8 (ud.toNat : Int)) rfl
                have e3 := hcell 3 (.slice ab pb.length cbv) rfl
                rw [show oc + (k * 4 + 0) = oc + k * 4 by omega] at e0
                rw [show oc + (k * 4 + 1) = oc + k * 4 + 1 by omega] at e1
                rw [show oc + (k * 4 + 2) = oc + k * 4 + 2 by omega] at e2
                rw [show oc + (k * 4 + 3) = oc + k * 4 + 3 by omega] at e3
                have s0 := r4 0 (.slice none 0 0) rfl
                have s1 := r4 1 (.int .i64 on) rfl
                have s2 := r4 2 (.int .i32 0) rfl
                have s3 := r4 3 (.bool false) rfl
                have s4 := r4 4 (.int .i64 0) rfl
                rw [Nat.add_zero] at s0
                obtain ⟨pn, hpn⟩ : ∃ pn, pb.length = pn := ⟨_, rfl⟩
                have hbv' : BytesAt wr (.slice ab pn cbv) pb := by rw [← hpn]; exact hbv
                rw [show (CallR.mk kd rn ud pb).bytes.length = pn from hpn] at e3
                have hlt' : (k : Int) < fu.length := by omega
                have hk0 : (0 : Int) ≤ k := by omega
                have hna : New wr (wr.alloc (.cells #[.slice none 0 0, .int .i64 on, .int .i32 0, .bool false, .int .i64 0] 50)) := (Keep.refl _ _).alloc _
                have x1 := cell_new wr #[.slice none 0 0, .int .i64 on, .int .i32 0, .bool false, .int .i64 0] 50 1
                have x4 := cell_new wr #[.slice none 0 0, .int .i64 on, .int .i32 0, .bool false, .int .i64 0] 50 4
                simp only [show (#[Value.slice none 0 0, .int .i64 on, .int .i32 0, .bool false, .int .i64 0])[1]? = some (.int .i64 on) from rfl] at x1
                simp only [show (#[Value.slice none 0 0, .int .i64 on, .int .i32 0, .bool false, .int .i64 0])[4]? = some (.int .i64 0) from rfl] at x4
                have y0 := New.cellAt hna e0
                have y1 := New.cellAt hna e1
                have y2 := New.cellAt hna e2
                have y3 := New.cellAt hna e3
                have HS := Lib.hid (fun (w' : World) (h : New (wr.alloc (.cells #[.slice none 0 0, .int .i64 on, .int .i32 0, .bool false, .int .i64 0] 50)).drew w') => (show w'.cell? ⟨wr.heap.size, 1, none⟩ = some (.int .i64 on) ∧ w'.cell? ⟨wr.heap.size, 4, none⟩ = some (.int .i64 0) ∧ w'.cell? ⟨bc, oc + k * 4, none⟩ = some (.int .i64 kd) ∧ w'.cell? ⟨bc, oc + k * 4 + 1, none⟩ = some (.int .i64 rn) ∧ w'.cell? ⟨bc, oc + k * 4 + 2, none⟩ = some (.int .u8 (ud.toNat : Int)) ∧ w'.cell? ⟨bc, oc + k * 4 + 3, none⟩ = some (.slice ab pn cbv) from ⟨New.cellAt h x1, New.cellAt h x4, New.cellAt h y0, New.cellAt h y1, New.cellAt h y2, New.cellAt h y3⟩))
                have HBv := Lib.hid (hbv'.new hna.drew)
                have Hnw := Lib.hid (hnw.then hna)
                have Hq2 := Lib.hid q2
                clear ho hy q2 r4 hcell hbv hbv' hpn hnw hna
                by_cases hkd : kd = 0 ∨ kd = 2 ∨ kd = 3
                · have hon := Hq2.out hkd
                  obtain ⟨m', hm'⟩ : ∃ m', (ask ⟨kd, rn, ud, pb⟩).length = m' := ⟨_, rfl⟩
                  rw [hm'] at hon
                  obtain rfl : on = (m' : Int) := hon
                  have Hm' := Lib.hid hm'
                  have n1 : ((m' : Int) != (m' : Int)) = false := by simp
                  clear hm' Hq2
                  rcases hkd with rfl | rfl | rfl
                  · as_aux_lemma =>
                    go_wp2_with fail
                    refine wp_region_held_drew (S := (fun w' => w'.cell? ⟨wr.heap.size, 1, none⟩ = some (.int .i64 m') ∧ w'.cell? ⟨wr.heap.size, 4, none⟩ = some (.int .i64 0) ∧ w'.cell? ⟨bc, oc + k * 4, none⟩ = some (.int .i64 0) ∧ w'.cell? ⟨bc, oc + k * 4 + 1, none⟩ = some (.int .i64 rn) ∧ w'.cell? ⟨bc, oc + k * 4 + 2, none⟩ = some (.int .u8 (ud.toNat : Int)) ∧ w'.cell? ⟨bc, oc + k * 4 + 3, none⟩ = some (.slice ab pn cbv))) (by kernel_rfl) ⟨x1, x4, y0, y1, y2, y3⟩ (fun hHeld => ?_)
                    refine wpAnyH_take (i := 0) (v := ?vk1) rfl (by kernel_rfl) (by kernel_rfl) (by kernel_rfl) (fun _ _ _ h => h) (Or.inl ⟨by rfl, ?hk1⟩) (by assumption) ?rk1
                    case hk1 => intro w' hSw; (try dsimp only at hSw); go_simp; try (with_reducible rfl)
                    simp only [List.getElem_toArray, List.getElem_cons_zero, List.getElem_cons_succ, Act.put, List.setIfInBounds_toArray, List.set_cons_zero, List.set_cons_succ]
                    refine wpAnyH_take (i := 1) (v := ?vk2) rfl (by kernel_rfl) (by kernel_rfl) (by kernel_rfl) (fun _ _ _ h => h) (Or.inl ⟨by rfl, ?hk2⟩) (by assumption) ?rk2
                    case hk2 => intro w' hSw; (try dsimp only at hSw); go_simp; try (with_reducible rfl)
                    simp only [List.getElem_toArray, List.getElem_cons_zero, List.getElem_cons_succ, Act.put, List.setIfInBounds_toArray, List.set_cons_zero, List.set_cons_succ]
                    refine wpAnyH_take (i := 2) (v := ?vk3) rfl (by kernel_rfl) (by kernel_rfl) (by kernel_rfl) (fun _ _ _ h => h) (Or.inl ⟨by rfl, ?hk3⟩) (by assumption) ?rk3
                    case hk3 => intro w' hSw; (try dsimp only at hSw); go_simp; try (with_reducible rfl)
                    simp only [List.getElem_toArray, List.getElem_cons_zero, List.getElem_cons_succ, Act.put, List.setIfInBounds_toArray, List.set_cons_zero, List.set_cons_succ]
                    refine wpAnyH_take (i := 3) (v := ?vk4) rfl (by kernel_rfl) (by kernel_rfl) (by kernel_rfl) (fun _ _ _ h => h) (Or.inl ⟨by rfl, ?hk4⟩) (by assumption) ?rk4
                    case hk4 => intro w' hSw; (try dsimp only at hSw); go_simp; try (with_reducible rfl)
                    simp only [List.getElem_toArray, List.getElem_cons_zero, List.getElem_cons_succ, Act.put, List.setIfInBounds_toArray, List.set_cons_zero, List.set_cons_succ]
                    refine wpAnyH_take (i := 4) (v := ?vk5) rfl (by kernel_rfl) (by kernel_rfl) (by kernel_rfl) (fun _ _ _ h => h) (Or.inl ⟨by rfl, ?hk5⟩) (by assumption) ?rk5
                    case hk5 => intro w' hSw; (try dsimp only at hSw); go_simp; try (with_reducible rfl)
                    simp only [List.getElem_toArray, List.getElem_cons_zero, List.getElem_cons_succ, Act.put, List.setIfInBounds_toArray, List.set_cons_zero, List.set_cons_succ]
                    refine wpAnyH_take (i := 5) (v := ?vk6) rfl (by kernel_rfl) (by kernel_rfl) (by kernel_rfl) (fun _ _ _ h => h) (Or.inl ⟨by rfl, ?hk6⟩) (by assumption) ?rk6
                    case hk6 => intro w' hSw; (try dsimp only at hSw); go_simp; try (with_reducible rfl)
                    simp only [List.getElem_toArray, List.getElem_cons_zero, List.getElem_cons_succ, Act.put, List.setIfInBounds_toArray, List.set_cons_zero, List.set_cons_succ]
                    refine wpAnyH_take (i := 6) (v := ?vk7) rfl (by kernel_rfl) (by kernel_rfl) (by kernel_rfl) (fun _ _ _ h => h) (Or.inl ⟨by rfl, ?hk7⟩) (by assumption) ?rk7
                    case hk7 => intro w' hSw; (try dsimp only at hSw); go_simp; try (with_reducible rfl)
                    simp only [List.getElem_toArray, List.getElem_cons_zero, List.getElem_cons_succ, Act.put, List.setIfInBounds_toArray, List.set_cons_zero, List.set_cons_succ]
                    refine wpAnyH_take (i := 7) (v := ?vk8) rfl (by kernel_rfl) (by kernel_rfl) (by kernel_rfl) (fun _ _ _ h => h) (Or.inl ⟨by rfl, ?hk8⟩) (by assumption) ?rk8
                    case hk8 => intro w' hSw; (try dsimp only at hSw); go_simp; try (with_reducible rfl)
                    simp only [List.getElem_toArray, List.getElem_cons_zero, List.getElem_cons_succ, Act.put, List.setIfInBounds_toArray, List.set_cons_zero, List.set_cons_succ]
                    refine wpAnyH_take (i := 8) (v := ?vk9) rfl (by kernel_rfl) (by kernel_rfl) (by kernel_rfl) (fun _ _ _ h => h) (Or.inl ⟨by rfl, ?hk9⟩) (by assumption) ?rk9
                    case hk9 => intro w' hSw; (try dsimp only at hSw); go_simp; try (with_reducible rfl)
                    simp only [List.getElem_toArray, List.getElem_cons_zero, List.getElem_cons_succ, Act.put, List.setIfInBounds_toArray, List.set_cons_zero, List.set_cons_succ]
                    refine wpAnyH_take (i := 9) (v := ?vk10) rfl (by kernel_rfl) (by kernel_rfl) (by kernel_rfl) (fun _ _ _ h => h) (Or.inl ⟨by rfl, ?hk10⟩) (by assumption) ?rk10
                    case hk10 => intro w' hSw; (try dsimp only at hSw); go_simp; try (with_reducible rfl)
                    simp only [List.getElem_toArray, List.getElem_cons_zero, List.getElem_cons_succ, Act.put, List.setIfInBounds_toArray, List.set_cons_zero, List.set_cons_succ]
                    refine wpAnyH_take (i := 10) (v := ?vk11) rfl (by kernel_rfl) (by kernel_rfl) (by kernel_rfl) (fun _ _ _ h => h) (Or.inl ⟨by rfl, ?hk11⟩) (by assumption) ?rk11
                    case hk11 => intro w' hSw; (try dsimp only at hSw); go_simp; try (with_reducible rfl)
                    simp only [List.getElem_toArray, List.getElem_cons_zero, List.getElem_cons_succ, Act.put, List.setIfInBounds_toArray, List.set_cons_zero, List.set_cons_succ]
                    refine wpAnyH_take (i := 11) (v := undef) rfl (by kernel_rfl) (by kernel_rfl) (by kernel_rfl) (fun _ _ _ h => h) (Or.inr ⟨by kernel_rfl, rfl⟩) (by assumption) ?_
                    simp only [List.getElem_toArray, List.getElem_cons_zero, List.getElem_cons_succ, Act.put, List.setIfInBounds_toArray, List.set_cons_zero, List.set_cons_succ]
                    refine wpAnyH_take (i := 12) (v := undef) rfl (by kernel_rfl) (by kernel_rfl) (by kernel_rfl) (fun _ _ _ h => h) (Or.inr ⟨by kernel_rfl, rfl⟩) (by assumption) ?_
                    simp only [List.getElem_toArray, List.getElem_cons_zero, List.getElem_cons_succ, Act.put, List.setIfInBounds_toArray, List.set_cons_zero, List.set_cons_succ]
                    refine wpAnyH_take (i := 13) (v := undef) rfl (by kernel_rfl) (by kernel_rfl) (by kernel_rfl) (fun _ _ _ h => h) (Or.inr ⟨by kernel_rfl, rfl⟩) (by assumption) ?_
                    simp only [List.getElem_toArray, List.getElem_cons_zero, List.getElem_cons_succ, Act.put, List.setIfInBounds_toArray, List.set_cons_zero, List.set_cons_succ]
                    refine wpAnyH_take (i := 14) (v := undef) rfl (by kernel_rfl) (by kernel_rfl) (by kernel_rfl) (fun _ _ _ h => h) (Or.inr ⟨by kernel_rfl, rfl⟩) (by assumption) ?_
                    simp only [List.getElem_toArray, List.getElem_cons_zero, List.getElem_cons_succ, Act.put, List.setIfInBounds_toArray, List.set_cons_zero, List.set_cons_succ]
                    refine wpAnyH_take (i := 15) (v := undef) rfl (by kernel_rfl) (by kernel_rfl) (by kernel_rfl) (fun _ _ _ h => h) (Or.inr ⟨by kernel_rfl, rfl⟩) (by assumption) ?_
                    simp only [List.getElem_toArray, List.getElem_cons_zero, List.getElem_cons_succ, Act.put, List.setIfInBounds_toArray, List.set_cons_zero, List.set_cons_succ]
                    refine wpAnyH_take (i := 16) (v := undef) rfl (by kernel_rfl) (by kernel_rfl) (by kernel_rfl) (fun _ _ _ h => h) (Or.inr ⟨by kernel_rfl, rfl⟩) (by assumption) ?_
                    simp only [List.getElem_toArray, List.getElem_cons_zero, List.getElem_cons_succ, Act.put, List.setIfInBounds_toArray, List.set_cons_zero, List.set_cons_succ]
                    refine wpAnyH_take (i := 17) (v := ?vk12) rfl (by kernel_rfl) (by kernel_rfl) (by kernel_rfl) (fun _ _ _ h => h) (Or.inl ⟨by rfl, ?hk12⟩) (by assumption) ?rk12
                    case hk12 => intro w' hSw; (try dsimp only at hSw); go_simp; try (with_reducible rfl)
                    simp only [List.getElem_toArray, List.getElem_cons_zero, List.getElem_cons_succ, Act.put, List.setIfInBounds_toArray, List.set_cons_zero, List.set_cons_succ]
                    refine wpAnyH_take (i := 18) (v := ?vk13) rfl (by kernel_rfl) (by kernel_rfl) (by kernel_rfl) (fun _ _ _ h => h) (Or.inl ⟨by rfl, ?hk13⟩) (by assumption) ?rk13
                    case hk13 => intro w' hSw; (try dsimp only at hSw); go_simp; try (with_reducible rfl)
                    simp only [List.getElem_toArray, List.getElem_cons_zero, List.getElem_cons_succ, Act.put, List.setIfInBounds_toArray, List.set_cons_zero, List.set_cons_succ]
                    refine wpAnyH_take (i := 19) (v := undef) rfl (by kernel_rfl) (by kernel_rfl) (by kernel_rfl) (fun _ _ _ h => h) (Or.inr ⟨by kernel_rfl, rfl⟩) (by assumption) ?_
                    simp only [List.getElem_toArray, List.getElem_cons_zero, List.getElem_cons_succ, Act.put, List.setIfInBounds_toArray, List.set_cons_zero, List.set_cons_succ]
                    refine wpAnyH_take (i := 20) (v := undef) rfl (by kernel_rfl) (by kernel_rfl) (by kernel_rfl) (fun _ _ _ h => h) (Or.inr ⟨by kernel_rfl, rfl⟩) (by assumption) ?_
                    simp only [List.getElem_toArray, List.getElem_cons_zero, List.getElem_cons_succ, Act.put, List.setIfInBounds_toArray, List.set_cons_zero, List.set_cons_succ]
                    refine wpAnyH_take (i := 21) (v := undef) rfl (by kernel_rfl) (by kernel_rfl) (by kernel_rfl) (fun _ _ _ h => h) (Or.inr ⟨by kernel_rfl, rfl⟩) (by assumption) ?_
                    simp only [List.getElem_toArray, List.getElem_cons_zero, List.getElem_cons_succ, Act.put, List.setIfInBounds_toArray, List.set_cons_zero, List.set_cons_succ]
                    refine wpAnyH_take (i := 22) (v := undef) rfl (by kernel_rfl) (by kernel_rfl) (by kernel_rfl) (fun _ _ _ h => h) (Or.inr ⟨by kernel_rfl, rfl⟩) (by assumption) ?_
                    simp only [List.getElem_toArray, List.getElem_cons_zero, List.getElem_cons_succ, Act.put, List.setIfInBounds_toArray, List.set_cons_zero, List.set_cons_succ]
                    refine wpAnyH_take (i := 23) (v := undef) rfl (by kernel_rfl) (by kernel_rfl) (by kernel_rfl) (fun _ _ _ h => h) (Or.inr ⟨by kernel_rfl, rfl⟩) (by assumption) ?_
                    simp only [List.getElem_toArray, List.getElem_cons_zero, List.getElem_cons_succ, Act.put, List.setIfInBounds_toArray, List.set_cons_zero, List.set_cons_succ]
                    refine wpAnyH_take (i := 24) (v := undef) rfl (by kernel_rfl) (by kernel_rfl) (by kernel_rfl) (fun _ _ _ h => h) (Or.inr ⟨by kernel_rfl, rfl⟩) (by assumption) ?_
                    simp only [List.getElem_toArray, List.getElem_cons_zero, List.getElem_cons_succ, Act.put, List.setIfInBounds_toArray, List.set_cons_zero, List.set_cons_succ]
                    refine wpAnyH_take (i := 25) (v := ?vk14) rfl (by kernel_rfl) (by kernel_rfl) (by kernel_rfl) (fun _ _ _ h => h) (Or.inl ⟨by rfl, ?hk14⟩) (by assumption) ?rk14
                    case hk14 => intro w' hSw; (try dsimp only at hSw); go_simp; try (with_reducible rfl)
                    simp only [List.getElem_toArray, List.getElem_cons_zero, List.getElem_cons_succ, Act.put, List.setIfInBounds_toArray, List.set_cons_zero, List.set_cons_succ]
                    refine wpAnyH_take (i := 26) (v := ?vk15) rfl (by kernel_rfl) (by kernel_rfl) (by kernel_rfl) (fun _ _ _ h => h) (Or.inl ⟨by rfl, ?hk15⟩) (by assumption) ?rk15
                    case hk15 => intro w' hSw; (try dsimp only at hSw); go_simp; try (with_reducible rfl)
                    simp only [List.getElem_toArray, List.getElem_cons_zero, List.getElem_cons_succ, Act.put, List.setIfInBounds_toArray, List.set_cons_zero, List.set_cons_succ]
                    refine wpAnyH_take (i := 27) (v := ?vk16) rfl (by kernel_rfl) (by kernel_rfl) (by kernel_rfl) (fun _ _ _ h => h) (Or.inl ⟨by rfl, ?hk16⟩) (by assumption) ?rk16
                    case hk16 => intro w' hSw; (try dsimp only at hSw); go_simp; try (with_reducible rfl)
                    simp only [List.getElem_toArray, List.getElem_cons_zero, List.getElem_cons_succ, Act.put, List.setIfInBounds_toArray, List.set_cons_zero, List.set_cons_succ]
                    refine wpAnyH_take (i := 28) (v := ?vk17) rfl (by kernel_rfl) (by kernel_rfl) (by kernel_rfl) (fun _ _ _ h => h) (Or.inl ⟨by rfl, ?hk17⟩) (by assumption) ?rk17
                    case hk17 => intro w' hSw; (try dsimp only at hSw); go_simp; try (with_reducible rfl)
                    simp only [List.getElem_toArray, List.getElem_cons_zero, List.getElem_cons_succ, Act.put, List.setIfInBounds_toArray, List.set_cons_zero, List.set_cons_succ]
                    refine wpAnyH_take (i := 29) (v := ?vk18) rfl (by kernel_rfl) (by kernel_rfl) (by kernel_rfl) (fun _ _ _ h => h) (Or.inl ⟨by rfl, ?hk18⟩) (by assumption) ?rk18
                    case hk18 => intro w' hSw; (try dsimp only at hSw); go_simp; try (with_reducible rfl)
                    simp only [List.getElem_toArray, List.getElem_cons_zero, List.getElem_cons_succ, Act.put, List.setIfInBounds_toArray, List.set_cons_zero, List.set_cons_succ]
                    refine wpAnyH_take (i := 30) (v := ?vk19) rfl (by kernel_rfl) (by kernel_rfl) (by kernel_rfl) (fun _ _ _ h => h) (Or.inl ⟨by rfl, ?hk19⟩) (by assumption) ?rk19
                    case hk19 => intro w' hSw; (try dsimp only at hSw); go_simp; try (with_reducible rfl)
                    simp only [List.getElem_toArray, List.getElem_cons_zero, List.getElem_cons_succ, Act.put, List.setIfInBounds_toArray, List.set_cons_zero, List.set_cons_succ]
                    refine wpAnyH_take (i := 31) (v := ?vk20) rfl (by kernel_rfl) (by kernel_rfl) (by kernel_rfl) (fun _ _ _ h => h) (Or.inl ⟨by rfl, ?hk20⟩) (by assumption) ?rk20
                    case hk20 => intro w' hSw; (try dsimp only at hSw); go_simp; try (with_reducible rfl)
                    simp only [List.getElem_toArray, List.getElem_cons_zero, List.getElem_cons_succ, Act.put, List.setIfInBounds_toArray, List.set_cons_zero, List.set_cons_succ]
                    refine wpAnyH_take (i := 32) (v := ?vk21) rfl (by kernel_rfl) (by kernel_rfl) (by kernel_rfl) (fun _ _ _ h => h) (Or.inl ⟨by rfl, ?hk21⟩) (by assumption) ?rk21
                    case hk21 => intro w' hSw; (try dsimp only at hSw); go_simp; try (with_reducible rfl)
                    simp only [List.getElem_toArray, List.getElem_cons_zero, List.getElem_cons_succ, Act.put, List.setIfInBounds_toArray, List.set_cons_zero, List.set_cons_succ]
                    refine wpAnyH_ready (rs := [33]) (by kernel_rfl) (by simp) ?_
                    refine AllReadyH.cons rfl (fun K hK => ?_) AllReadyH.nil
                    go_simp
                    go_at_call 25
                    (with_reducible refine (asked_call _ 0 rn ud pb _ m' HBv.out Hm'.out).mono ?_)
                    rintro e w1 ⟨aa, ca, rfl, hn1⟩
                    go_wp2_with fail
                    refine hK.out _ _ (HS.out _ hn1) (fun hHeld2 => ?_)
                    clear hK K hHeld
                    try simp only [List.getElem_toArray, List.getElem_cons_zero, List.getElem_cons_succ, Act.put, List.setIfInBounds_toArray, List.set_cons_zero, List.set_cons_succ]
                    refine wpAnyH_take (i := 34) (v := ?vk22) rfl (by kernel_rfl) (by kernel_rfl) (by kernel_rfl) (fun _ _ _ h => h) (Or.inl ⟨by rfl, ?hk22⟩) (by assumption) ?rk22
                    case hk22 => intro w' hSw; (try dsimp only at hSw); go_simp; try (with_reducible rfl)
                    simp only [List.getElem_toArray, List.getElem_cons_zero, List.getElem_cons_succ, Act.put, List.setIfInBounds_toArray, List.set_cons_zero, List.set_cons_succ]
                    refine wpAnyH_take (i := 35) (v := ?vk23) rfl (by kernel_rfl) (by kernel_rfl) (by kernel_rfl) (fun _ _ _ h => h) (Or.inl ⟨by rfl, ?hk23⟩) (by assumption) ?rk23
                    case hk23 => intro w' hSw; (try dsimp only at hSw); go_simp; try (with_reducible rfl)
                    simp only [List.getElem_toArray, List.getElem_cons_zero, List.getElem_cons_succ, Act.put, List.setIfInBounds_toArray, List.set_cons_zero, List.set_cons_succ]
                    refine wpAnyH_take (i := 36) (v := ?vk24) rfl (by kernel_rfl) (by kernel_rfl) (by kernel_rfl) (fun _ _ _ h => h) (Or.inl ⟨by rfl, ?hk24⟩) (by assumption) ?rk24
                    case hk24 => intro w' hSw; (try dsimp only at hSw); go_simp; try (with_reducible rfl)
                    simp only [List.getElem_toArray, List.getElem_cons_zero, List.getElem_cons_succ, Act.put, List.setIfInBounds_toArray, List.set_cons_zero, List.set_cons_succ]
                    refine wpAnyH_take (i := 37) (v := ?vk25) rfl (by kernel_rfl) (by kernel_rfl) (by kernel_rfl) (fun _ _ _ h => h) (Or.inl ⟨by rfl, ?hk25⟩) (by assumption) ?rk25
                    case hk25 => intro w' hSw; (try dsimp only at hSw); go_simp; try (with_reducible rfl)
                    simp only [List.getElem_toArray, List.getElem_cons_zero, List.getElem_cons_succ, Act.put, List.setIfInBounds_toArray, List.set_cons_zero, List.set_cons_succ]
                    refine wpAnyH_done (by kernel_rfl) ?_ _
                    all_goals
                      have HN : Hid (New wG w1) := (Hnw.out.drew).then hn1
                      clear hHeld2 HS hn1
                      go_wp2
                      go_roundg (fu.length - (k + 1))
                      case measure => omega
                      case rel => exact ⟨k + 1, hlt, by go_num, HN.out, rfl⟩
                  · as_aux_lemma =>
                    go_wp2_with fail
                    go_region_held3 (fun w' => w'.cell? ⟨wr.heap.size, 1, none⟩ = some (.int .i64 m') ∧ w'.cell? ⟨wr.heap.size, 4, none⟩ = some (.int .i64 0) ∧ w'.cell? ⟨bc, oc + k * 4, none⟩ = some (.int .i64 2) ∧ w'.cell? ⟨bc, oc + k * 4 + 1, none⟩ = some (.int .i64 rn) ∧ w'.cell? ⟨bc, oc + k * 4 + 2, none⟩ = some (.int .u8 (ud.toNat : Int)) ∧ w'.cell? ⟨bc, oc + k * 4 + 3, none⟩ = some (.slice ab pn cbv))
                      (first | exact ⟨x1, x4, y0, y1, y2, y3⟩ | exact HS.out _ hn1)
                      (first | (go_at_call 25; (with_reducible refine (asked_call _ 2 rn ud pb _ m' HBv.out Hm'.out).mono ?_); rintro e w1 ⟨aa, ca, rfl, hn1⟩))
                    all_goals
                      rename_i hh
                      have HN : Hid (New wG w1) := (Hnw.out.drew).then hn1
                      clear hh HS hn1
                      go_wp2
                      go_roundg (fu.length - (k + 1))
                      case measure => omega
                      case rel => exact ⟨k + 1, hlt, by go_num, HN.out, rfl⟩
                  · as_aux_lemma =>
                    go_wp2_with fail
                    refine wp_region_held_drew (S := (fun w' => w'.cell? ⟨wr.heap.size, 1, none⟩ = some (.int .i64 m') ∧ w'.cell? ⟨wr.heap.size, 4, none⟩ = some (.int .i64 0) ∧ w'.cell? ⟨bc, oc + k * 4, none⟩ = some (.int .i64 3) ∧ w'.cell? ⟨bc, oc + k * 4 + 1, none⟩ = some (.int .i64 rn) ∧ w'.cell? ⟨bc, oc + k * 4 + 2, none⟩ = some (.int .u8 (ud.toNat : Int)) ∧ w'.cell? ⟨bc, oc + k * 4 + 3, none⟩ = some (.slice ab pn cbv))) (by kernel_rfl) ⟨x1, x4, y0, y1, y2, y3⟩ (fun hHeld => ?_)
                    refine wpAnyH_take (i := 0) (v := ?vk26) rfl (by kernel_rfl) (by kernel_rfl) (by kernel_rfl) (fun _ _ _ h => h) (Or.inl ⟨by rfl, ?hk26⟩) (by assumption) ?rk26
                    case hk26 => intro w' hSw; (try dsimp only at hSw); go_simp; try (with_reducible rfl)
                    simp only [List.getElem_toArray, List.getElem_cons_zero, List.getElem_cons_succ, Act.put, List.setIfInBounds_toArray, List.set_cons_zero, List.set_cons_succ]
                    refine wpAnyH_take (i := 1) (v := ?vk27) rfl (by kernel_rfl) (by kernel_rfl) (by kernel_rfl) (fun _ _ _ h => h) (Or.inl ⟨by rfl, ?hk27⟩) (by assumption) ?rk27
                    case hk27 => intro w' hSw; (try dsimp only at hSw); go_simp; try (with_reducible rfl)
                    simp only [List.getElem_toArray, List.getElem_cons_zero, List.getElem_cons_succ, Act.put, List.setIfInBounds_toArray, List.set_cons_zero, List.set_cons_succ]
                    refine wpAnyH_take (i := 2) (v := ?vk28) rfl (by kernel_rfl) (by kernel_rfl) (by kernel_rfl) (fun _ _ _ h => h) (Or.inl ⟨by rfl, ?hk28⟩) (by assumption) ?rk28
                    case hk28 => intro w' hSw; (try dsimp only at hSw); go_simp; try (with_reducible rfl)
                    simp only [List.getElem_toArray, List.getElem_cons_zero, List.getElem_cons_succ, Act.put, List.setIfInBounds_toArray, List.set_cons_zero, List.set_cons_succ]
                    refine wpAnyH_take (i := 3) (v := ?vk29) rfl (by kernel_rfl) (by kernel_rfl) (by kernel_rfl) (fun _ _ _ h => h) (Or.inl ⟨by rfl, ?hk29⟩) (by assumption) ?rk29
                    case hk29 => intro w' hSw; (try dsimp only at hSw); go_simp; try (with_reducible rfl)
                    simp only [List.getElem_toArray, List.getElem_cons_zero, List.getElem_cons_succ, Act.put, List.setIfInBounds_toArray, List.set_cons_zero, List.set_cons_succ]
                    refine wpAnyH_take (i := 4) (v := ?vk30) rfl (by kernel_rfl) (by kernel_rfl) (by kernel_rfl) (fun _ _ _ h => h) (Or.inl ⟨by rfl, ?hk30⟩) (by assumption) ?rk30
                    case hk30 => intro w' hSw; (try dsimp only at hSw); go_simp; try (with_reducible rfl)
                    simp only [List.getElem_toArray, List.getElem_cons_zero, List.getElem_cons_succ, Act.put, List.setIfInBounds_toArray, List.set_cons_zero, List.set_cons_succ]
                    refine wpAnyH_take (i := 5) (v := ?vk31) rfl (by kernel_rfl) (by kernel_rfl) (by kernel_rfl) (fun _ _ _ h => h) (Or.inl ⟨by rfl, ?hk31⟩) (by assumption) ?rk31
                    case hk31 => intro w' hSw; (try dsimp only at hSw); go_simp; try (with_reducible rfl)
                    simp only [List.getElem_toArray, List.getElem_cons_zero, List.getElem_cons_succ, Act.put, List.setIfInBounds_toArray, List.set_cons_zero, List.set_cons_succ]
                    refine wpAnyH_take (i := 6) (v := ?vk32) rfl (by kernel_rfl) (by kernel_rfl) (by kernel_rfl) (fun _ _ _ h => h) (Or.inl ⟨by rfl, ?hk32⟩) (by assumption) ?rk32
                    case hk32 => intro w' hSw; (try dsimp only at hSw); go_simp; try (with_reducible rfl)
                    simp only [List.getElem_toArray, List.getElem_cons_zero, List.getElem_cons_succ, Act.put, List.setIfInBounds_toArray, List.set_cons_zero, List.set_cons_succ]
                    refine wpAnyH_take (i := 7) (v := ?vk33) rfl (by kernel_rfl) (by kernel_rfl) (by kernel_rfl) (fun _ _ _ h => h) (Or.inl ⟨by rfl, ?hk33⟩) (by assumption) ?rk33
                    case hk33 => intro w' hSw; (try dsimp only at hSw); go_simp; try (with_reducible rfl)
                    simp only [List.getElem_toArray, List.getElem_cons_zero, List.getElem_cons_succ, Act.put, List.setIfInBounds_toArray, List.set_cons_zero, List.set_cons_succ]
                    refine wpAnyH_take (i := 8) (v := ?vk34) rfl (by kernel_rfl) (by kernel_rfl) (by kernel_rfl) (fun _ _ _ h => h) (Or.inl ⟨by rfl, ?hk34⟩) (by assumption) ?rk34
                    case hk34 => intro w' hSw; (try dsimp only at hSw); go_simp; try (with_reducible rfl)
                    simp only [List.getElem_toArray, List.getElem_cons_zero, List.getElem_cons_succ, Act.put, List.setIfInBounds_toArray, List.set_cons_zero, List.set_cons_succ]
                    refine wpAnyH_take (i := 9) (v := ?vk35) rfl (by kernel_rfl) (by kernel_rfl) (by kernel_rfl) (fun _ _ _ h => h) (Or.inl ⟨by rfl, ?hk35⟩) (by assumption) ?rk35
                    case hk35 => intro w' hSw; (try dsimp only at hSw); go_simp; try (with_reducible rfl)
                    simp only [List.getElem_toArray, List.getElem_cons_zero, List.getElem_cons_succ, Act.put, List.setIfInBounds_toArray, List.set_cons_zero, List.set_cons_succ]
                    refine wpAnyH_take (i := 10) (v := ?vk36) rfl (by kernel_rfl) (by kernel_rfl) (by kernel_rfl) (fun _ _ _ h => h) (Or.inl ⟨by rfl, ?hk36⟩) (by assumption) ?rk36
                    case hk36 => intro w' hSw; (try dsimp only at hSw); go_simp; try (with_reducible rfl)
                    simp only [List.getElem_toArray, List.getElem_cons_zero, List.getElem_cons_succ, Act.put, List.setIfInBounds_toArray, List.set_cons_zero, List.set_cons_succ]
                    refine wpAnyH_take (i := 11) (v := ?vk37) rfl (by kernel_rfl) (by kernel_rfl) (by kernel_rfl) (fun _ _ _ h => h) (Or.inl ⟨by rfl, ?hk37⟩) (by assumption) ?rk37
                    case hk37 => intro w' hSw; (try dsimp only at hSw); go_simp; try (with_reducible rfl)
                    simp only [List.getElem_toArray, List.getElem_cons_zero, List.getElem_cons_succ, Act.put, List.setIfInBounds_toArray, List.set_cons_zero, List.set_cons_succ]
                    refine wpAnyH_take (i := 12) (v := ?vk38) rfl (by kernel_rfl) (by kernel_rfl) (by kernel_rfl) (fun _ _ _ h => h) (Or.inl ⟨by rfl, ?hk38⟩) (by assumption) ?rk38
                    case hk38 => intro w' hSw; (try dsimp only at hSw); go_simp; try (with_reducible rfl)
                    simp only [List.getElem_toArray, List.getElem_cons_zero, List.getElem_cons_succ, Act.put, List.setIfInBounds_toArray, List.set_cons_zero, List.set_cons_succ]
                    refine wpAnyH_take (i := 13) (v := ?vk39) rfl (by kernel_rfl) (by kernel_rfl) (by kernel_rfl) (fun _ _ _ h => h) (Or.inl ⟨by rfl, ?hk39⟩) (by assumption) ?rk39
                    case hk39 => intro w' hSw; (try dsimp only at hSw); go_simp; try (with_reducible rfl)
                    simp only [List.getElem_toArray, List.getElem_cons_zero, List.getElem_cons_succ, Act.put, List.setIfInBounds_toArray, List.set_cons_zero, List.set_cons_succ]
                    refine wpAnyH_take (i := 14) (v := ?vk40) rfl (by kernel_rfl) (by kernel_rfl) (by kernel_rfl) (fun _ _ _ h => h) (Or.inl ⟨by rfl, ?hk40⟩) (by assumption) ?rk40
                    case hk40 => intro w' hSw; (try dsimp only at hSw); go_simp; try (with_reducible rfl)
                    simp only [List.getElem_toArray, List.getElem_cons_zero, List.getElem_cons_succ, Act.put, List.setIfInBounds_toArray, List.set_cons_zero, List.set_cons_succ]
                    refine wpAnyH_take (i := 15) (v := ?vk41) rfl (by kernel_rfl) (by kernel_rfl) (by kernel_rfl) (fun _ _ _ h => h) (Or.inl ⟨by rfl, ?hk41⟩) (by assumption) ?rk41
                    case hk41 => intro w' hSw; (try dsimp only at hSw); go_simp; try (with_reducible rfl)
                    simp only [List.getElem_toArray, List.getElem_cons_zero, List.getElem_cons_succ, Act.put, List.setIfInBounds_toArray, List.set_cons_zero, List.set_cons_succ]
                    refine wpAnyH_take (i := 16) (v := ?vk42) rfl (by kernel_rfl) (by kernel_rfl) (by kernel_rfl) (fun _ _ _ h => h) (Or.inl ⟨by rfl, ?hk42⟩) (by assumption) ?rk42
                    case hk42 => intro w' hSw; (try dsimp only at hSw); go_simp; try (with_reducible rfl)
                    simp only [List.getElem_toArray, List.getElem_cons_zero, List.getElem_cons_succ, Act.put, List.setIfInBounds_toArray, List.set_cons_zero, List.set_cons_succ]
                    refine wpAnyH_take (i := 17) (v := ?vk43) rfl (by kernel_rfl) (by kernel_rfl) (by kernel_rfl) (fun _ _ _ h => h) (Or.inl ⟨by rfl, ?hk43⟩) (by assumption) ?rk43
                    case hk43 => intro w' hSw; (try dsimp only at hSw); go_simp; try (with_reducible rfl)
                    simp only [List.getElem_toArray, List.getElem_cons_zero, List.getElem_cons_succ, Act.put, List.setIfInBounds_toArray, List.set_cons_zero, List.set_cons_succ]
                    refine wpAnyH_take (i := 18) (v := ?vk44) rfl (by kernel_rfl) (by kernel_rfl) (by kernel_rfl) (fun _ _ _ h => h) (Or.inl ⟨by rfl, ?hk44⟩) (by assumption) ?rk44
                    case hk44 => intro w' hSw; (try dsimp only at hSw); go_simp; try (with_reducible rfl)
                    simp only [List.getElem_toArray, List.getElem_cons_zero, List.getElem_cons_succ, Act.put, List.setIfInBounds_toArray, List.set_cons_zero, List.set_cons_succ]
                    refine wpAnyH_take (i := 19) (v := undef) rfl (by kernel_rfl) (by kernel_rfl) (by kernel_rfl) (fun _ _ _ h => h) (Or.inr ⟨by kernel_rfl, rfl⟩) (by assumption) ?_
                    simp only [List.getElem_toArray, List.getElem_cons_zero, List.getElem_cons_succ, Act.put, List.setIfInBounds_toArray, List.set_cons_zero, List.set_cons_succ]
                    refine wpAnyH_take (i := 20) (v := undef) rfl (by kernel_rfl) (by kernel_rfl) (by kernel_rfl) (fun _ _ _ h => h) (Or.inr ⟨by kernel_rfl, rfl⟩) (by assumption) ?_
                    simp only [List.getElem_toArray, List.getElem_cons_zero, List.getElem_cons_succ, Act.put, List.setIfInBounds_toArray, List.set_cons_zero, List.set_cons_succ]
                    refine wpAnyH_take (i := 21) (v := undef) rfl (by kernel_rfl) (by kernel_rfl) (by kernel_rfl) (fun _ _ _ h => h) (Or.inr ⟨by kernel_rfl, rfl⟩) (by assumption) ?_
                    simp only [List.getElem_toArray, List.getElem_cons_zero, List.getElem_cons_succ, Act.put, List.setIfInBounds_toArray, List.set_cons_zero, List.set_cons_succ]
                    refine wpAnyH_take (i := 22) (v := undef) rfl (by kernel_rfl) (by kernel_rfl) (by kernel_rfl) (fun _ _ _ h => h) (Or.inr ⟨by kernel_rfl, rfl⟩) (by assumption) ?_
                    simp only [List.getElem_toArray, List.getElem_cons_zero, List.getElem_cons_succ, Act.put, List.setIfInBounds_toArray, List.set_cons_zero, List.set_cons_succ]
                    refine wpAnyH_take (i := 23) (v := undef) rfl (by kernel_rfl) (by kernel_rfl) (by kernel_rfl) (fun _ _ _ h => h) (Or.inr ⟨by kernel_rfl, rfl⟩) (by assumption) ?_
                    simp only [List.getElem_toArray, List.getElem_cons_zero, List.getElem_cons_succ, Act.put, List.setIfInBounds_toArray, List.set_cons_zero, List.set_cons_succ]
                    refine wpAnyH_take (i := 24) (v := undef) rfl (by kernel_rfl) (by kernel_rfl) (by kernel_rfl) (fun _ _ _ h => h) (Or.inr ⟨by kernel_rfl, rfl⟩) (by assumption) ?_
                    simp only [List.getElem_toArray, List.getElem_cons_zero, List.getElem_cons_succ, Act.put, List.setIfInBounds_toArray, List.set_cons_zero, List.set_cons_succ]
                    refine wpAnyH_take (i := 25) (v := ?vk45) rfl (by kernel_rfl) (by kernel_rfl) (by kernel_rfl) (fun _ _ _ h => h) (Or.inl ⟨by rfl, ?hk45⟩) (by assumption) ?rk45
                    case hk45 => intro w' hSw; (try dsimp only at hSw); go_simp; try (with_reducible rfl)
                    simp only [List.getElem_toArray, List.getElem_cons_zero, List.getElem_cons_succ, Act.put, List.setIfInBounds_toArray, List.set_cons_zero, List.set_cons_succ]
                    refine wpAnyH_take (i := 26) (v := ?vk46) rfl (by kernel_rfl) (by kernel_rfl) (by kernel_rfl) (fun _ _ _ h => h) (Or.inl ⟨by rfl, ?hk46⟩) (by assumption) ?rk46
                    case hk46 => intro w' hSw; (try dsimp only at hSw); go_simp; try (with_reducible rfl)
                    simp only [List.getElem_toArray, List.getElem_cons_zero, List.getElem_cons_succ, Act.put, List.setIfInBounds_toArray, List.set_cons_zero, List.set_cons_succ]
                    refine wpAnyH_take (i := 27) (v := ?vk47) rfl (by kernel_rfl) (by kernel_rfl) (by kernel_rfl) (fun _ _ _ h => h) (Or.inl ⟨by rfl, ?hk47⟩) (by assumption) ?rk47
                    case hk47 => intro w' hSw; (try dsimp only at hSw); go_simp; try (with_reducible rfl)
                    simp only [List.getElem_toArray, List.getElem_cons_zero, List.getElem_cons_succ, Act.put, List.setIfInBounds_toArray, List.set_cons_zero, List.set_cons_succ]
                    refine wpAnyH_take (i := 28) (v := ?vk48) rfl (by kernel_rfl) (by kernel_rfl) (by kernel_rfl) (fun _ _ _ h => h) (Or.inl ⟨by rfl, ?hk48⟩) (by assumption) ?rk48
                    case hk48 => intro w' hSw; (try dsimp only at hSw); go_simp; try (with_reducible rfl)
                    simp only [List.getElem_toArray, List.getElem_cons_zero, List.getElem_cons_succ, Act.put, List.setIfInBounds_toArray, List.set_cons_zero, List.set_cons_succ]
                    refine wpAnyH_take (i := 29) (v := ?vk49) rfl (by kernel_rfl) (by kernel_rfl) (by kernel_rfl) (fun _ _ _ h => h) (Or.inl ⟨by rfl, ?hk49⟩) (by assumption) ?rk49
                    case hk49 => intro w' hSw; (try dsimp only at hSw); go_simp; try (with_reducible rfl)
                    simp only [List.getElem_toArray, List.getElem_cons_zero, List.getElem_cons_succ, Act.put, List.setIfInBounds_toArray, List.set_cons_zero, List.set_cons_succ]
                    refine wpAnyH_take (i := 30) (v := ?vk50) rfl (by kernel_rfl) (by kernel_rfl) (by kernel_rfl) (fun _ _ _ h => h) (Or.inl ⟨by rfl, ?hk50⟩) (by assumption) ?rk50
                    case hk50 => intro w' hSw; (try dsimp only at hSw); go_simp; try (with_reducible rfl)
                    simp only [List.getElem_toArray, List.getElem_cons_zero, List.getElem_cons_succ, Act.put, List.setIfInBounds_toArray, List.set_cons_zero, List.set_cons_succ]
                    refine wpAnyH_take (i := 31) (v := ?vk51) rfl (by kernel_rfl) (by kernel_rfl) (by kernel_rfl) (fun _ _ _ h => h) (Or.inl ⟨by rfl, ?hk51⟩) (by assumption) ?rk51
                    case hk51 => intro w' hSw; (try dsimp only at hSw); go_simp; try (with_reducible rfl)
                    simp only [List.getElem_toArray, List.getElem_cons_zero, List.getElem_cons_succ, Act.put, List.setIfInBounds_toArray, List.set_cons_zero, List.set_cons_succ]
                    refine wpAnyH_take (i := 32) (v := ?vk52) rfl (by kernel_rfl) (by kernel_rfl) (by kernel_rfl) (fun _ _ _ h => h) (Or.inl ⟨by rfl, ?hk52⟩) (by assumption) ?rk52
                    case hk52 => intro w' hSw; (try dsimp only at hSw); go_simp; try (with_reducible rfl)
                    simp only [List.getElem_toArray, List.getElem_cons_zero, List.getElem_cons_succ, Act.put, List.setIfInBounds_toArray, List.set_cons_zero, List.set_cons_succ]
                    refine wpAnyH_ready (rs := [33]) (by kernel_rfl) (by simp) ?_
                    refine AllReadyH.cons rfl (fun K hK => ?_) AllReadyH.nil
                    go_simp
                    go_at_call 25
                    (with_reducible refine (asked_call _ 3 rn ud pb _ m' HBv.out Hm'.out).mono ?_)
                    rintro e w1 ⟨aa, ca, rfl, hn1⟩
                    go_wp2_with fail
                    refine hK.out _ _ (HS.out _ hn1) (fun hHeld2 => ?_)
                    clear hK K hHeld
                    try simp only [List.getElem_toArray, List.getElem_cons_zero, List.getElem_cons_succ, Act.put, List.setIfInBounds_toArray, List.set_cons_zero, List.set_cons_succ]
                    refine wpAnyH_take (i := 34) (v := ?vk53) rfl (by kernel_rfl) (by kernel_rfl) (by kernel_rfl) (fun _ _ _ h => h) (Or.inl ⟨by rfl, ?hk53⟩) (by assumption) ?rk53
                    case hk53 => intro w' hSw; (try dsimp only at hSw); go_simp; try (with_reducible rfl)
                    simp only [List.getElem_toArray, List.getElem_cons_zero, List.getElem_cons_succ, Act.put, List.setIfInBounds_toArray, List.set_cons_zero, List.set_cons_succ]
                    refine wpAnyH_take (i := 35) (v := ?vk54) rfl (by kernel_rfl) (by kernel_rfl) (by kernel_rfl) (fun _ _ _ h => h) (Or.inl ⟨by rfl, ?hk54⟩) (by assumption) ?rk54
                    case hk54 => intro w' hSw; (try dsimp only at hSw); go_simp; try (with_reducible rfl)
                    simp only [List.getElem_toArray, List.getElem_cons_zero, List.getElem_cons_succ, Act.put, List.setIfInBounds_toArray, List.set_cons_zero, List.set_cons_succ]
                    refine wpAnyH_take (i := 36) (v := ?vk55) rfl (by kernel_rfl) (by kernel_rfl) (by kernel_rfl) (fun _ _ _ h => h) (Or.inl ⟨by rfl, ?hk55⟩) (by assumption) ?rk55
                    case hk55 => intro w' hSw; (try dsimp only at hSw); go_simp; try (with_reducible rfl)
                    simp only [List.getElem_toArray, List.getElem_cons_zero, List.getElem_cons_succ, Act.put, List.setIfInBounds_toArray, List.set_cons_zero, List.set_cons_succ]
                    refine wpAnyH_take (i := 37) (v := ?vk56) rfl (by kernel_rfl) (by kernel_rfl) (by kernel_rfl) (fun _ _ _ h => h) (Or.inl ⟨by rfl, ?hk56⟩) (by assumption) ?rk56
                    case hk56 => intro w' hSw; (try dsimp only at hSw); go_simp; try (with_reducible rfl)
                    simp only [List.getElem_toArray, List.getElem_cons_zero, List.getElem_cons_succ, Act.put, List.setIfInBounds_toArray, List.set_cons_zero, List.set_cons_succ]
                    refine wpAnyH_done (by kernel_rfl) ?_ _
                    all_goals
                      have HN : Hid (New wG w1) := (Hnw.out.drew).then hn1
                      clear hHeld2 HS hn1
                      go_wp2
                      go_roundg (fu.length - (k + 1))
                      case measure => omega
                      case rel => exact ⟨k + 1, hlt, by go_num, HN.out, rfl⟩
                · have c0 : (kd == 0) = false := by simp; omega
                  have c2 : (kd == 2) = false := by simp; omega
                  have c3 : (kd == 3) = false := by simp; omega
                  have h0' : ¬ kd = 0 := by omega
                  have h2' : ¬ kd = 2 := by omega
                  have h3' : ¬ kd = 3 := by omega
                  clear hkd Hq2
                  as_aux_lemma =>
                    go_wp2_with fail
                    go_quiet (fail)
                    go_wp2
                    go_roundg (fu.length - (k + 1))
                    case measure => omega
                    case rel => exact ⟨k + 1, hlt, by go_num, Hnw.out.drewN _, rfl⟩
              · obtain rfl : k = fu.length := by omega
                have hnl3 : ¬ ((fu.length : Int) < fu.length) := by omega
                have Hnw := Lib.hid (HND.out.then hnw)
                clear hnw
                go_wp2
                go_ret
                exact ⟨rfl, Hnw.out⟩
end Go.Proofs.YtjihbkmbbcdnfaaDoor
