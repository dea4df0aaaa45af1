/-
  The walk of the law FnWriterReset.
-/
import Derived.Test.YtjihbkmbbcdnfaaDoorPureW9
import Derived.Test.YtjihbkmbbcdnfaaDoorPureW7
import Derived.Test.YtjihbkmbbcdnfaaDoorBegins
import Derived.Test.YtjihbkmbbcdnfaaDoorLawWriteStrings
namespace Go.Proofs.YtjihbkmbbcdnfaaDoor
open Go.RowKit

theorem CallsOwn.low {w : World} {base b0 : Nat} {v : Value} {cs : List CallR} {bvs : List Value} (h : CallsOwn w base v cs bvs) (hb : b0 ≤ base) : CallsOwn w b0 v cs bvs := by
  refine ⟨?_, h.len, h.row, h.apart⟩
  obtain ⟨hl, hr⟩ := h.own
  rcases hr with ⟨e, h0⟩ | ⟨g, cap, cur, e, hb', hg, h1, h2, h3, h4⟩
  · exact ⟨hl, .inl ⟨e, h0⟩⟩
  · exact ⟨hl, .inr ⟨g, cap, cur, e, Nat.le_trans hb hb', hg, h1, h2, h3, h4⟩⟩

def KOne (w : World) (n : Nat) (x : Int) (g : Nat) (v i : Value) (wr : World) : Prop :=
  ∃ (k : Nat) (a1 : Option Addr) (c1 : Nat), k ≤ n ∧ i = .int .i64 k ∧ v = .slice a1 k c1 ∧ wr.ownsRow w.heap.size 3 1 v k (List.replicate k (.int .i64 x)) ∧ New w wr ∧ g = n - k

def wcalls (qs : List (List UInt8)) : List CallR := qs.map fun p => ⟨0, 0, 0, p⟩
theorem wcalls_succ (qs : List (List UInt8)) (k : Nat) (h : k < qs.length) : wcalls (qs.take (k + 1)) = wcalls (qs.take k) ++ [⟨0, 0, 0, qs[k]⟩] := by
  unfold wcalls
  rw [List.take_add_one, List.getElem?_eq_getElem h, List.map_append]
  rfl

def RsInv (w : World) (cs : List CallR) (qs : List (List UInt8)) (g : Nat) (v i : Value) (wr : World) : Prop :=
  ∃ (k : Nat) (ao : Option Addr) (co N : Nat) (bvs : List Value), k ≤ qs.length ∧ i = .int .i64 k ∧ v = .slice ao N co ∧ cs.length + k = N ∧ CallsOwn wr w.heap.size v (cs ++ wcalls (qs.take k)) bvs ∧ New w wr ∧ g = qs.length - k

theorem callsW_wcalls (qs : List (List UInt8)) : callsW (wcalls qs) = (joined qs).length + 4 * qs.length := by
  rw [callsW_asks _ (fun c hc => by simp [wcalls] at hc; obtain ⟨p, _, rfl⟩ := hc; exact .inl rfl)]
  rw [show asks (wcalls qs) = joined qs from asks_map qs]
  simp [wcalls]

set_option maxRecDepth 100000 in
set_option maxHeartbeats 4000000 in
theorem walkFnWriterReset (w : World) (B0 : Nat) (ad : Nat → Addr) (hE : Errs w B0 ad) (hB0 : B0 ≤ w.heap.size) (n room other : Int) (v1 v2 : Value) (ps qs : List (List UInt8)) (h1 : -32768 ≤ n) (h2 : n ≤ 32767)
    (r1 : -9223372036854775807 ≤ room + 1) (r2 : room ≤ 9223372036854775807) (q1 : -9223372036854775807 ≤ other + 1) (q2 : other ≤ 9223372036854775807) (hv1 : PartsAt w v1 ps) (hv2 : PartsAt w v2 qs)
    (hall : ((joined ps).length + ps.length) + ((joined qs).length + qs.length) ≤ 1048576) :
    Calls Tryd.prog 11 #[.int .i16 n, v1, v2, .int .i64 room, .int .i64 other] w fun e w' => e = .returned (.bool true) ∧ New w w' := by
  obtain ⟨a1, c1, rfl, m1⟩ := hv1.len
  obtain ⟨a2, c2, rfl, m2⟩ := hv2.len
  obtain ⟨i0, hi, hz0, hz1, hz2⟩ := info_parts infoIntA
  obtain ⟨i1, hx, hx0, hx1, hx2⟩ := info_parts infoByte
  obtain ⟨j0, hj, hy0, hy1, hy2⟩ := info_parts infoCall
  have HV1 := Lib.hid hv1
  have HV2 := Lib.hid hv2
  have HE := Lib.hid hE
  have H0 : Hid (KOne w ps.length 0 ps.length (.slice none 0 0) (.int .i64 0) w) := ⟨0, none, 0, Nat.zero_le _, rfl, rfl, by simpa using World.ownsRow_nil w w.heap.size 3 1, Keep.refl _ _, rfl⟩
  have hwb := wsize_bounds n h2
  clear hv1 hv2 hE
  go_enter Tryd.func11, Tryd.ntmps11
  go_wp2_with fail
  go_loopg [11, 23] ps.length (fun g v i wr => KOne w ps.length 0 g v i wr)
  case atStart => exact H0.out
  case round =>
    obtain ⟨k, ak, ck, hk, rfl, rfl, ho1, hnw, rfl⟩ := hrel
    by_cases hlt : k < ps.length
    · have hlt' : (k : Int) < ps.length := by omega
      have hbase := hnw.size
      have Ho1 : Hid ((wr.alloc (.cells #[.int .i64 0] 3)).ownsRow w.heap.size 3 1 (.slice ak k ck) k (List.replicate k (.int .i64 0))) := ho1.alloc _
      have HO1 := Lib.hid ho1
      have Hnw := Lib.hid hnw
      have HE0 : Hid (∀ ad', some (⟨wr.heap.size, 0, none⟩ : Addr) = some ad' → CellsAt (wr.alloc (.cells #[.int .i64 0] 3)) ad' [.int .i64 0]) := by
        intro ad' e' j u hu
        cases e'
        rw [addr_add, Nat.zero_add]
        exact (cell_new wr #[.int .i64 0] 3 j).trans (by simpa using hu)
      have HE1 : Hid (∀ u ∈ [(Value.int .i64 0)], u.oneCell' = true) := by intro u hu; simp at hu; subst hu; rfl
      clear ho1 hnw
      go_wp2_with (at_builtin; refine wpList_append_row rfl _ _ 40 rfl w.heap.size 3 i0 (.int .i64 0) 1 8 Tryd.underlying40 hi hz0 hz1 hz2 (by rfl) (by decide) _ k (List.replicate k (.int .i64 0)) rfl Ho1.out (some ⟨wr.heap.size, 0, none⟩) 1 1 [.int .i64 0] (by rfl) (by intro e; cases e) (by rfl) HE0.out HE1.out (by unfold maxLen; omega) (by omega) (by simp; omega) ?_)
      intro a3 c3 w3 ho3 hg3 hb3
      have H5 : Hid (KOne w ps.length 0 (ps.length - (k + 1)) (.slice a3 (k + 1) c3) (.int .i64 ((k : Int) + 1)) w3) := by
        have hk3 : Keep (fun i => (Value.slice ak k ck).ownBlock = some i) wr w3 := ((Keep.refl _ wr).alloc _).trans ((Keep.refl (fun i => (Value.slice ak k ck).ownBlock = some i) _).grown hg3 (fun i hi => .inl hi)) (fun _ _ e => e)
        refine ⟨k + 1, a3, c3, hlt, by rw [show (((k + 1 : Nat)) : Int) = (k : Int) + 1 by omega], rfl, ?_, ?_, rfl⟩
        · rw [replV_snoc]; exact ho3
        · exact Hnw.out.trans hk3 (fun i hi e => by have := (HO1.out.lt i e).1; omega)
      clear ho3 hg3 hb3
      go_wp2
      go_roundg (ps.length - (k + 1))
      case measure => omega
      case rel => exact H5.out
    · obtain rfl : k = ps.length := by omega
      have hnl : ¬ ((ps.length : Int) < ps.length) := by omega
      rw [replV_ints] at ho1
      have HI1 : Hid (IntsAt wr (.slice ak ps.length ck) (List.replicate ps.length 0)) := ownsRow_rowAt ho1
      have HN0 := Lib.hid hnw
      have hbase := hnw.size
      have HVr := Lib.hid (HV1.out.new hnw)
      clear ho1 hnw hlt
      have hkl : (List.replicate ps.length (0 : Int)).length = ps.length := by simp
      have Hkl := Lib.hid hkl
      clear hkl
      go_wp2_with fail
      refine (writes_n _ _ _ _ (List.replicate ps.length 0) ps [] ps.length Hkl.out HI1.out HVr.out (intsAt_nil _) (by omega) (by omega)).mono ?_
      rintro e wA ⟨xa, xc, bvs, rfl, hcoA', hnA⟩
      have hcoA : CallsOwn wA w.heap.size (.slice xa ps.length xc) (writesR (List.replicate ps.length 0) ps []) bvs := hcoA'.low hbase
      clear hcoA'
      have HcoA := Lib.hid hcoA
      have HnA := Lib.hid (HN0.out.then hnA)
      have hlenA : (writesR (List.replicate ps.length 0) ps []).length = ps.length := by rw [writesR_length]; simp
      have HlenA := Lib.hid hlenA
      have hzA := (HN0.out.then hnA).size
      have HX5 : Hid ((wA.alloc (.cells (two 7 6) 44)).ownsRow w.heap.size 44 4 (.slice xa ps.length xc) ps.length (callsV (writesR (List.replicate ps.length 0) ps []) bvs)) := by
        have h8 := hcoA.own
        rw [hlenA] at h8
        exact h8.alloc _
      have HE0 := Lib.hid (two_cells wA 7 6)
      unfold two at HX5 HE0
      clear hcoA hnA hlenA
      go_wp2_with (at_builtin; refine wpList_append_row rfl _ _ 41 rfl w.heap.size 44 j0 (.agg #[.int .i64 0, .int .i64 0, .int .u8 0, .slice none 0 0]) 4 48 Tryd.underlying41 hj hy0 hy1 hy2 (by rfl) (by decide) _ ps.length (callsV (writesR (List.replicate ps.length 0) ps []) bvs) rfl HX5.out (some ⟨wA.heap.size, 0, none⟩) 2 2 (two 7 6).toList (by rfl) (by intro e; cases e) (by rfl) HE0.out (two_one 7 6) (by unfold maxLen; omega) (by omega) (by simp; omega) ?_)
      intro ya yc wB hoB hgB hbB
      have hnB0 : New wA (wA.alloc (.cells (two 7 6) 44)) := (Keep.refl _ _).alloc _
      have hcoB : CallsOwn wB w.heap.size (.slice ya (ps.length + 2) yc) (writesR (List.replicate ps.length 0) ps [] ++ [callK 7, callK 6]) (bvs ++ List.replicate 2 (.slice none 0 0)) := by
        refine HcoA.out.more (ds := [callK 7, callK 6]) hnB0 hgB (fun d hd => by simp at hd; rcases hd with rfl | rfl <;> rfl) ?_ (fun i hi => ?_)
        · rw [HlenA.out]; exact hoB
        · rcases hbB i hi with h | h
          · exact .inl h
          · first | exact .inr h | (right; rw [h]; simp [two])
      have hkB : New w wB := (HnA.out.then hnB0).trans ((Keep.refl (fun i => (Value.slice xa ps.length xc).ownBlock = some i) _).grown hgB (fun i hi => .inl hi)) (fun i hi e => by have := (HcoA.out.own.lt i e).1; omega)
      obtain ⟨cs, hcs⟩ : ∃ cs, cs = writesR (List.replicate ps.length 0) ps [] ++ [callK 7, callK 6] := ⟨_, rfl⟩
      have hcsl : cs.length = ps.length + 2 := by rw [hcs, List.length_append, HlenA.out]; rfl
      have hcsw : callsW cs ≤ 8388608 := by
        rw [hcs, callsW_append, callsW_asks _ (fun c hc => by rw [writes_kind 0 ps.length ps [] c hc]; omega), asks_writes 0 (by omega) ps.length ps [] rfl, HlenA.out]
        simp [callsW, callK]; omega
      rw [← hcs] at hcoB
      rw [← hcsl] at hcoB ⊢
      have HL0 : Hid (RsInv w cs qs qs.length (.slice ya cs.length yc) (.int .i64 0) wB) := ⟨0, ya, yc, cs.length, _, Nat.zero_le _, rfl, rfl, rfl, by simpa [wcalls] using hcoB, hkB, rfl⟩
      have Hcs := Lib.hid hcs
      have Hcsl := Lib.hid hcsl
      have Hcsw := Lib.hid hcsw
      have hcsb : cs.length ≤ 1048578 := by omega
      clear hoB hgB hbB hnB0 hcoB hkB hcs hcsl hcsw
      go_wp2_with fail
      go_loopg [12, 38, 14] qs.length (fun g v i x14 wr => RsInv w cs qs g v i wr)
      case atStart => exact HL0.out
      case round =>
        obtain ⟨k, ao, co, N, bvs', hk, rfl, rfl, hN, hco, hnw, rfl⟩ := hrel
        have hNb : N ≤ 2097154 := by omega
        have hclen : (cs ++ wcalls (qs.take k)).length = N := by rw [List.length_append]; simp [wcalls]; omega
        by_cases hlt : k < qs.length
        · obtain ⟨bp, op, au, cu, rfl, cp, rp⟩ := (HV2.out.new hnw).at hlt
          have hjl := joined_take_le qs (k + 1)
          have hjs := joined_take_succ qs k _ (List.getElem?_eq_getElem hlt)
          have hws := wcalls_succ qs k hlt
          obtain ⟨p, hpp⟩ : ∃ p, p = qs[k] := ⟨_, rfl⟩
          rw [← hpp] at cp rp hjs hws
          have hpb : p.length ≤ 140737488355328 := by rw [hjs] at hjl; simp at hjl; omega
          obtain ⟨m, hm⟩ : ∃ m, p.length = m := ⟨_, rfl⟩
          rw [hm] at cp rp hpb
          have Hm := Lib.hid hm
          have Hrp := Lib.hid (RowAt.parts rp)
          have Hbl : Hid ((bytesV p).length = m * 1) := by show _ = _; rw [bytesV_length, hm, Nat.mul_one]
          have hlt' : (k : Int) < qs.length := by omega
          have Hco := Lib.hid hco
          have Hnw := Lib.hid hnw
          have Hws := Lib.hid hws
          have HN := Lib.hid hN
          have Hcl := Lib.hid hclen
          have hbase2 := hnw.size
          have hml : m ≤ maxLen := by unfold maxLen; omega
          have hmb : m * 1 ≤ 140737488355328 := by omega
          have Hml := Lib.hid hml
          have Hmb := Lib.hid hmb
          clear hjl hjs hws hpp rp hm hco hnw hN hclen hml hmb
          go_wp2_with (at_builtin; refine wpList_append_nil rfl _ _ 27 rfl w.heap.size 5 i1 (.int .u8 0) 1 1 Tryd.underlying27 hx hx0 hx1 hx2 rfl (by decide) rfl au m cu (bytesV p) rfl Hrp.out.2.2.1 Hbl.out Hrp.out.2.2.2 (bytesV_one _) Hml.out Hmb.out hbase2 ?_)
          intro a5 c5 w5 ho5 hn5 hb5
          have hB5 : BytesAt w5 (.slice a5 m c5) p := ownsRow_rowAt (by rw [← Hm.out] at ho5 ⊢; exact ho5)
          have Hap5 : Hid (∀ i, Value.inBlock (.slice a5 m c5) i → wr.heap.size ≤ i) := fun i hi => by
            have h7 := hb5 i (inBlock_own hi)
            omega
          have HB5 := Lib.hid hB5
          have Hn5 := Lib.hid hn5
          have hz5 := hn5.size
          have HX6 : Hid ((w5.alloc (.cells #[.int .i64 0, .int .i64 0, .int .u8 0, .slice a5 m c5] 44)).ownsRow w.heap.size 44 4 (.slice ao N co) N (callsV (cs ++ wcalls (qs.take k)) bvs')) := by
            have h8 := ownsRow_keep Hco.out.own hn5 (fun _ _ f => f)
            rw [Hcl.out] at h8
            exact h8.alloc _
          have HE0 : Hid (∀ ad', some (⟨w5.heap.size, 0, none⟩ : Addr) = some ad' → CellsAt (w5.alloc (.cells #[.int .i64 0, .int .i64 0, .int .u8 0, .slice a5 m c5] 44)) ad' [.int .i64 0, .int .i64 0, .int .u8 0, .slice a5 m c5]) := by
            intro ad' e' j u hu
            cases e'
            rw [addr_add, Nat.zero_add]
            exact (cell_new w5 #[.int .i64 0, .int .i64 0, .int .u8 0, .slice a5 m c5] 44 j).trans (by simpa using hu)
          have HE1 : Hid (∀ u ∈ [(.int .i64 0 : Value), .int .i64 0, .int .u8 0, .slice a5 m c5], u.oneCell' = true) := by
            intro u hu
            simp at hu
            rcases hu with rfl | rfl | rfl <;> rfl
          clear ho5 hn5 hb5 hB5
          go_wp2_with (at_builtin; refine wpList_append_row rfl _ _ 41 rfl w.heap.size 44 j0 (.agg #[.int .i64 0, .int .i64 0, .int .u8 0, .slice none 0 0]) 4 48 Tryd.underlying41 hj hy0 hy1 hy2 (by rfl) (by decide) _ N (callsV (cs ++ wcalls (qs.take k)) bvs') rfl HX6.out (some ⟨w5.heap.size, 0, none⟩) 1 1 [.int .i64 0, .int .i64 0, .int .u8 0, .slice a5 m c5] (by rfl) (by intro e; cases e) (by rfl) HE0.out HE1.out (by unfold maxLen; omega) (by omega) (by simp; omega) ?_)
          intro a7 c7 w7 ho7 hg7 hb7
          have hn6 : New w5 (w5.alloc (.cells #[.int .i64 0, .int .i64 0, .int .u8 0, .slice a5 m c5] 44)) := (Keep.refl _ _).alloc _
          have h9 : CallsOwn w7 w.heap.size (.slice a7 (N + 1) c7) (cs ++ wcalls (qs.take (k + 1))) (bvs' ++ [.slice a5 m c5]) := by
            rw [Hws.out, ← List.append_assoc]
            refine Hco.out.snoc Hn5.out HB5.out Hap5.out hn6 hg7 ?_ (fun i hi => ?_)
            · rw [Hcl.out]; exact ho7
            · rcases hb7 i hi with h | h
              · exact .inl h
              · first | exact .inr h | (right; rw [h]; simp)
          have H7 : Hid (RsInv w cs qs (qs.length - (k + 1)) (.slice a7 (N + 1) c7) (.int .i64 ((k : Int) + 1)) w7) := by
            refine ⟨k + 1, a7, c7, N + 1, _, hlt, by rw [show (((k + 1 : Nat)) : Int) = (k : Int) + 1 by omega], rfl, by have := HN.out; omega, h9, ?_, rfl⟩
            exact ((Hnw.out.then Hn5.out).then hn6).trans ((Keep.refl (fun i => (Value.slice ao N co).ownBlock = some i) _).grown hg7 (fun i hi => .inl hi)) (fun i hi e => by have := (Hco.out.own.lt i e).1; omega)
          clear ho7 hg7 hb7 hn6 h9
          go_wp2
          go_roundg (qs.length - (k + 1))
          case measure => omega
          case rel => exact H7.out
        · obtain rfl : k = qs.length := by omega
          have hnl2 : ¬ ((qs.length : Int) < qs.length) := by omega
          rw [List.take_length] at hco hclen
          have Hco := Lib.hid hco
          have Hnw := Lib.hid hnw
          have HN := Lib.hid hN
          have Hcl := Lib.hid hclen
          have hbase2 := hnw.size
          have HX6 : Hid ((wr.alloc (.cells (oneC 4) 44)).ownsRow w.heap.size 44 4 (.slice ao N co) N (callsV (cs ++ wcalls qs) bvs')) := by
            have h8 := hco.own
            rw [hclen] at h8
            exact h8.alloc _
          have HE0 := Lib.hid (oneC_cells wr 4)
          unfold oneC at HX6 HE0
          clear hco hnw hN hclen hlt
          go_wp2_with (at_builtin; refine wpList_append_row rfl _ _ 41 rfl w.heap.size 44 j0 (.agg #[.int .i64 0, .int .i64 0, .int .u8 0, .slice none 0 0]) 4 48 Tryd.underlying41 hj hy0 hy1 hy2 (by rfl) (by decide) _ N (callsV (cs ++ wcalls qs) bvs') rfl HX6.out (some ⟨wr.heap.size, 0, none⟩) 1 1 (oneC 4).toList (by rfl) (by intro e; cases e) (by rfl) HE0.out (oneC_one 4) (by unfold maxLen; omega) (by omega) (by simp; omega) ?_)
          intro yb yd wC hoC hgC hbC
          have hnC0 : New wr (wr.alloc (.cells (oneC 4) 44)) := (Keep.refl _ _).alloc _
          have hcoC : CallsOwn wC w.heap.size (.slice yb (N + 1) yd) ((cs ++ wcalls qs) ++ [callK 4]) (bvs' ++ List.replicate 1 (.slice none 0 0)) := by
            refine Hco.out.more (ds := [callK 4]) hnC0 hgC (fun d hd => by simp at hd; subst hd; rfl) ?_ (fun i hi => ?_)
            · rw [Hcl.out]; exact hoC
            · rcases hbC i hi with h | h
              · exact .inl h
              · first | exact .inr h | (right; rw [h]; simp [oneC])
          have hkC : New w wC := (Hnw.out.then hnC0).trans ((Keep.refl (fun i => (Value.slice ao N co).ownBlock = some i) _).grown hgC (fun i hi => .inl hi)) (fun i hi e => by have := (Hco.out.own.lt i e).1; omega)
          obtain ⟨fu, hfu⟩ : ∃ fu, fu = (cs ++ wcalls qs) ++ [callK 4] := ⟨_, rfl⟩
          rw [← hfu] at hcoC
          have hful : fu.length = N + 1 := by rw [hfu, List.length_append, Hcl.out]; rfl
          have hfw : callsW fu ≤ 1099511627776 := by
            rw [hfu, callsW_append, callsW_append, callsW_wcalls]
            have := Hcsw.out
            simp [callsW, callK]; omega
          have hfl : fu.length ≤ 1099511627776 := by omega
          have HcsC := Lib.hid hcoC.calls
          have HkC := Lib.hid hkC
          have Hfu := Lib.hid hfu
          have Hful := Lib.hid hful
          have HEC := Lib.hid (HE.out.keep hkC (fun _ _ f => f))
          have hbC1 : B0 ≤ wC.heap.size := by have := hkC.size; omega
          generalize hN1 : N + 1 = M at HcsC Hful ⊢
          have HN1 := Lib.hid hN1
          have hMb : M ≤ 2097155 := by omega
          clear hoC hgC hbC hnC0 hcoC hkC hfu hful hN1
          go_wp2_with fail
          refine (writerRun_any _ B0 ad HEC.out hbC1 n room other _ fu HcsC.out h1 h2 r1 r2 q1 q2 hfw hfl).mono ?_
          rintro e wD ⟨outs, st, vo, vx, vy, hruns, rfl, hoD, hxg, hyg, hnD⟩
          have hfe : fu = writesR (List.replicate ps.length 0) ps [] ++ ([callK 7, callK 6] ++ ((qs.map fun p => ⟨0, 0, 0, p⟩) ++ [callK 4])) := by rw [Hfu.out, Hcs.out]; simp [wcalls]
          rw [hfe] at hruns
          obtain ⟨p1, p2, p3, p4, p5, p6, p7⟩ := reset_run hwb (writes_kind 0 ps.length ps []) (asks_writes 0 (by omega) ps.length ps [] rfl) hruns
          rw [HlenA.out] at p1 p2 p4
          have hM : ps.length + 2 + qs.length + 1 = M := by have e1 := HN1.out; have e2 := HN.out; have e3 := Hcsl.out; omega
          have hoL : outs.length = M := by omega
          obtain ⟨oa, oc, rfl⟩ := ownsRow_slice hoD
          obtain ⟨g0, d0, e0, -, s2⟩ := outs_at hoD p2
          simp only [Value.slice.injEq] at e0
          obtain ⟨rfl, -, rfl⟩ := e0
          obtain ⟨g1, d1, e1, -, s4⟩ := outs_at hoD p4
          simp only [Value.slice.injEq, Option.some.injEq, Addr.mk.injEq] at e1
          obtain ⟨⟨rfl, -, -⟩, -, -⟩ := e1
          have t2 := s2 1 (.int .i64 0) rfl
          obtain ⟨num, hnum⟩ : ∃ num : Int, num = if other.toNat < (joined qs).length then 9 else 0 := ⟨_, rfl⟩
          rw [← hnum] at s4
          have t4 := s4 4 (.int .i64 num) rfl
          obtain ⟨K1, hK1⟩ : ∃ K1, ps.length + 1 = K1 := ⟨_, rfl⟩
          rw [hK1] at t2
          have hK1i : (ps.length : Int) + 1 = (K1 : Int) := by omega
          have hK1b : K1 < M := by omega
          clear hK1
          rw [hoL]
          obtain ⟨z1, hz1e⟩ : ∃ z, z = st.got1 := ⟨_, rfl⟩
          obtain ⟨z2, hz2e⟩ : ∃ z, z = st.got2 := ⟨_, rfl⟩
          rw [← hz1e] at hxg p5 p6 p7
          rw [← hz2e] at hyg p3
          obtain ⟨xa1, xc1, rfl, _⟩ := id hxg
          obtain ⟨xa2, xc2, rfl, _⟩ := id hyg
          rw [bytesV_length] at hxg hyg ⊢
          rw [bytesV_length]
          generalize hl1 : z1.length = l1 at hxg p5 p6 p7 ⊢
          generalize hl2 : z2.length = l2 at hyg ⊢
          have Hl1 := Lib.hid hl1
          have Hl2 := Lib.hid hl2
          have Hxg := Lib.hid hxg
          have Hyg := Lib.hid hyg
          have Hp3 := Lib.hid p3
          have Hp5 := Lib.hid p5
          have Hnum := Lib.hid hnum
          have HND := Lib.hid (HkC.out.then hnD)
          have HnD := Lib.hid hnD
          have HED := Lib.hid (HEC.out.keep hnD (fun _ _ f => f))
          have hbD1 : B0 ≤ wD.heap.size := by have := hnD.size; omega
          have HVD1 := Lib.hid (HV1.out.new (HkC.out.then hnD))
          have HVD2 := Lib.hid (HV2.out.new (HkC.out.then hnD))
          have Ht2 := Lib.hid t2
          have Ht4 := Lib.hid t4
          have HM := Lib.hid hM
          have hl1p : l1 ≤ (joined ps).length := p6
          have hl1r : l1 ≤ room.toNat := p7
          clear hruns hfe hoD hxg hyg hnD p1 p2 p3 p4 p5 p6 p7 s2 s4 t2 t4 hnum hz1e hz2e hl1 hl2 HcsC hfw hfl hoL hM
          go_wp2_with fail
          refine (writeAll_any _ B0 ad HED.out hbD1 n other _ qs h1 h2 q1 q2 HVD2.out (by omega) z2 Hp3.out num Hnum.out).mono ?_
          rintro e wE ⟨aE, cE, rfl, hoE, hnE⟩
          rw [Hl2.out] at hoE ⊢
          have HrE : Hid (BytesAt wE (.slice aE l2 cE) z2) := ownsRow_rowAt hoE
          have HNE := Lib.hid (HND.out.then hnE)
          have u2 := New.cellAt hnE Ht2.out
          have u4 := New.cellAt hnE Ht4.out
          have HXE := Lib.hid (Hxg.out.new hnE)
          have HYE := Lib.hid (Hyg.out.new hnE)
          have HVE1 := Lib.hid (HVD1.out.new hnE)
          have HVE2 := Lib.hid (HVD2.out.new hnE)
          have hMi : (M : Int) - 1 = (ps.length + 2 + qs.length : Nat) := by have := HM.out; omega
          have hM1 : (K1 : Int) < M := by omega
          have hM2 : ((ps.length + 2 + qs.length : Nat) : Int) < M := by have := HM.out; omega
          have hl2b : l2 ≤ 9223372036854775807 := by
            have h8 := Hl2.out
            rw [Hp3.out] at h8
            simp at h8; omega
          generalize hNN : ps.length + 2 + qs.length = NN at u4 hMi hM2
          clear hoE hnE
          go_wp2_with fail
          refine (equal_gen _ _ _ z2 z2 HYE.out HrE.out (by rw [Hl2.out]; exact hl2b) true (by simp)).mono ?_
          rintro e wF ⟨rfl, hnF⟩
          have f4 := New.cellAt hnF u4
          have f2 := New.cellAt hnF u2
          have HNF := Lib.hid (HNE.out.then hnF)
          have HXF := Lib.hid (HXE.out.new hnF)
          have HVF1 := Lib.hid (HVE1.out.new hnF)
          have HVF2 := Lib.hid (HVE2.out.new hnF)
          clear hnF u2 u4
          go_wp2_with fail
          obtain ⟨y1, hy1e⟩ : ∃ y, y = joined ps := ⟨_, rfl⟩
          obtain ⟨y2, hy2e⟩ : ∃ y, y = joined qs := ⟨_, rfl⟩
          have Hy1e := Lib.hid hy1e
          have Hy2e := Lib.hid hy2e
          refine (lawJoined _ _ ps HVF1.out (by omega) y1 Hy1e.out).mono ?_
          rintro e wG ⟨aG, cG, rfl, hoG, hnG⟩
          have hrG : BytesAt wG (.slice aG y1.length cG) y1 := ownsRow_rowAt hoG
          generalize hk1 : y1.length = k1 at hrG ⊢
          have Hk1 := Lib.hid hk1
          have HrG := Lib.hid hrG
          have HNG := Lib.hid (HNF.out.then hnG)
          have HXG := Lib.hid (HXF.out.new hnG)
          have HVG2 := Lib.hid (HVF2.out.new hnG)
          have hkk : l1 ≤ k1 := by rw [← hk1, hy1e]; exact hl1p
          have hkk2 : k1 ≤ 9223372036854775807 := by rw [← hk1, hy1e]; omega
          have Hpp5 : Hid (z1 = y1.take l1) := by show _ = _; rw [hy1e]; exact Hp5.out
          clear hoG hrG hnG hk1 hy1e hy2e
          go_wp2_with fail
          refine (begins_at _ _ _ _ _ k1 l1 y1 z1 HrG.out HXG.out Hk1.out Hl1.out hkk Hpp5.out hkk2).mono ?_
          rintro e wH ⟨rfl, hnH⟩
          have HNH := Lib.hid (HNG.out.then hnH)
          have HVH2 := Lib.hid (HVG2.out.new hnH)
          clear hnH
          have hl2e : l2 = min other.toNat (joined qs).length := by
            have h8 := Hl2.out
            rw [Hp3.out] at h8
            simp at h8; omega
          obtain ⟨k2, hk2⟩ : ∃ k2, y2.length = k2 := ⟨_, rfl⟩
          have hk2b : k2 ≤ 1048576 := by rw [← hk2, Hy2e.out]; omega
          rw [← Hy2e.out, hk2] at hl2e
          have Hk2 := Lib.hid hk2
          have hcase : (0 < other ∧ other < (k2 : Int) ∧ other = l2) ∨ (0 < other ∧ ¬ other < (k2 : Int) ∧ l2 = k2) ∨ (¬ 0 < other ∧ l2 = 0 ∧ k2 = 0) ∨ (¬ 0 < other ∧ l2 = 0 ∧ (0 : Int) < k2) := by omega
          have Hcase := Lib.hid hcase
          clear hcase hl2e hk2
          have hr0 : (0 < room ∧ (l1 : Int) ≤ room) ∨ (¬ 0 < room ∧ l1 = 0) := by omega
          have Hr0 := Lib.hid hr0
          clear hr0 hl1r
          rcases Hr0.out with ⟨e1, e2⟩ | ⟨e1, e2⟩ <;> rcases Hcase.out with ⟨e3, e4, e5⟩ | ⟨e3, e4, e5⟩ | ⟨e3, e4, e5⟩ | ⟨e3, e4, e5⟩
          all_goals clear Hr0 Hcase
          all_goals
            go_wp2_with fail
            refine (lawJoined _ _ qs HVH2.out (by omega) y2 Hy2e.out).mono ?_
            rintro e wI ⟨aI, cI, rfl, hoI, hnI⟩
            have HNI := Lib.hid (HNH.out.then hnI)
            clear hoI hnI
            rw [Hk2.out]
            go_wp2
            go_ret
            refine ⟨?_, HNI.out⟩
            first | rfl | (simp; omega) | (simp [*]; omega)
end Go.Proofs.YtjihbkmbbcdnfaaDoor
