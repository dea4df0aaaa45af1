/-
  The walk of the law FnSticky.
-/
import Derived.Test.YtjihbkmbbcdnfaaDoorPureW8
import Derived.Test.YtjihbkmbbcdnfaaDoorAsked
import Derived.Test.YtjihbkmbbcdnfaaDoorLawWriteStrings
namespace Go.Proofs.YtjihbkmbbcdnfaaDoor
open Go.RowKit

section
variable {P : Program}
theorem slice_upto_any (t e : TypeId) (s : Nat) (ht : P.underlying t = some (.slice e)) (hsz : (P.info? e).map (·.size) = some s) (a : Option Addr) (n c hi : Nat) (h2 : hi ≤ c) (k2 : IntKind) :
    ∀ w, (Instr.slice t (.slice a n c) none (some (.int k2 hi)) none).run P w = .ok (.slice a hi c) w := by
  obtain ⟨i, hi', hs⟩ := Option.map_eq_some_iff.1 hsz
  intro w
  simp [Instr.slice, run_underlying ht, Instr.sliceBounds, Instr.sliceBound, asIntOf, sizeOf, typeInfo, hi', h2]
  intro _
  cases a <;> simp [Addr.add]
end
theorem sizeCall : (Tryd.prog.info? 44).map (·.size) = some 4 := by kernel_rfl

/-- The cells of three calls. -/
def three (x y z : Int) : Array Value := #[.int .i64 x, .int .i64 0, .int .u8 0, .slice none 0 0, .int .i64 y, .int .i64 0, .int .u8 0, .slice none 0 0, .int .i64 z, .int .i64 0, .int .u8 0, .slice none 0 0]
theorem three_calls (x y z : Int) : callsV [callK x, callK y, callK z] (List.replicate 3 (.slice none 0 0)) = (three x y z).toList := rfl
theorem three_one (x y z : Int) : ∀ u ∈ (three x y z).toList, u.oneCell' = true := by
  intro u hu
  simp [three] at hu
  rcases hu with rfl | rfl | rfl | rfl | rfl | rfl | rfl | rfl | rfl | rfl | rfl | rfl <;> rfl
theorem three_cells (w : World) (x y z : Int) : ∀ ad', some (⟨w.heap.size, 0, none⟩ : Addr) = some ad' → CellsAt (w.alloc (.cells (three x y z) 44)) ad' (three x y z).toList := by
  intro ad' e' j u hu
  cases e'
  rw [addr_add, Nat.zero_add]
  exact (cell_new w (three x y z) 44 j).trans (by simpa using hu)

def KInv (w : World) (ks : List Int) (top : Int) (g : Nat) (i : Value) (wr : World) : Prop :=
  ∃ k : Nat, k ≤ ks.length ∧ i = .int .i64 k ∧ (∀ x ∈ ks.take k, 0 ≤ x ∧ x ≤ top) ∧ New w wr ∧ g = ks.length - k

def AllInv (w : World) (cs : List CallR) (g : Nat) (v i : Value) (wr : World) : Prop :=
  ∃ (k : Nat) (ao : Option Addr) (co n : Nat) (x : List UInt8), k ≤ cs.length ∧ i = .int .i64 k ∧ v = .slice ao n co ∧ n = x.length ∧ x = asks (cs.take k) ∧ wr.ownsRow w.heap.size 5 1 v n (bytesV x) ∧ New w wr ∧ g = cs.length - k

theorem kinds_writes {ks : List Int} {ps : List (List UInt8)} {rs : List Int} {top : Int} (h : ∀ x ∈ ks, 0 ≤ x ∧ x ≤ top) : ∀ c ∈ writesR ks ps rs, 0 ≤ c.kind ∧ c.kind ≤ top := by
  intro c hc
  simp only [writesR, List.mem_map, List.mem_range] at hc
  obtain ⟨i, hi, rfl⟩ := hc
  refine h _ ?_
  show ks.getD i 0 ∈ ks
  rw [List.getD_eq_getElem?_getD, List.getElem?_eq_getElem hi]
  exact List.getElem_mem hi

theorem asks_take_le (cs : List CallR) (k : Nat) : (asks (cs.take k)).length ≤ (asks cs).length := by
  have h : asks cs = asks (cs.take k) ++ asks (cs.drop k) := by rw [← asks_append, List.take_append_drop]
  rw [h, List.length_append]; omega
theorem asks_take_succ {cs : List CallR} {k : Nat} {y : CallR} (hy : cs[k]? = some y) : asks (cs.take (k + 1)) = asks (cs.take k) ++ ask y := by
  rw [List.take_add_one, hy, asks_append]; simp [asks]

def FInv (w : World) (e : Nat → Bool) (N : Nat) (g : Nat) (vf i : Value) (wr : World) : Prop :=
  ∃ k : Nat, k ≤ N ∧ i = .int .i64 k ∧ vf = .bool (e k) ∧ New w wr ∧ g = N - k

set_option maxRecDepth 100000 in
set_option maxHeartbeats 4000000 in
theorem walkFnSticky (w : World) (B0 : Nat) (ad : Nat → Addr) (hE : Errs w B0 ad) (hB0 : B0 ≤ w.heap.size) (n room : Int) (v1 v2 v3 : Value) (ks : List Int) (ps : List (List UInt8)) (rs : List Int) (h1 : -32768 ≤ n) (h2 : n ≤ 32767)
    (r1 : -9223372036854775807 ≤ room + 1) (r2 : room ≤ 9223372036854775807) (hv1 : IntsAt w v1 ks ∧ ∀ z ∈ ks, -9223372036854775808 ≤ z ∧ z ≤ 9223372036854775807) (hv2 : PartsAt w v2 ps) (hv3 : IntsAt w v3 rs ∧ ∀ z ∈ rs, -9223372036854775808 ≤ z ∧ z ≤ 9223372036854775807)
    (hall : ks.length + ((joined ps).length + ps.length) + rs.length ≤ 1048576) :
    Calls Tryd.prog 6 #[.int .i16 n, v1, v2, v3, .int .i64 room] w fun e w' => e = .returned (.bool true) ∧ New w w' := by
  obtain ⟨hv1, hb1⟩ := hv1
  obtain ⟨hv3, _⟩ := hv3
  obtain ⟨a1, c1, rfl, m1⟩ := hv1.len
  obtain ⟨a2, c2, rfl, m2⟩ := hv2.len
  obtain ⟨a3, c3, rfl, m3⟩ := hv3.len
  obtain ⟨i1, hx, hx0, hx1, hx2⟩ := info_parts infoByte
  obtain ⟨j0, hj, hy0, hy1, hy2⟩ := info_parts infoCall
  have HV1 := Lib.hid hv1
  have HV2 := Lib.hid hv2
  have HV3 := Lib.hid hv3
  have HE := Lib.hid hE
  have Hb1 := Lib.hid hb1
  have H0 : Hid (KInv w ks 4 ks.length (.int .i64 0) w) := ⟨0, Nat.zero_le _, rfl, (fun x hx => by simp at hx), Keep.refl _ _, rfl⟩
  have hwb := wsize_bounds n h2
  clear hv1 hv2 hv3 hE hb1
  go_enter Tryd.func6, Tryd.ntmps6
  go_wp2_with fail
  go_loopg [26, 12] ks.length (fun g i x wr => KInv w ks 4 g i wr)
  case atStart => exact H0.out
  case round =>
    obtain ⟨k, hk, rfl, hks, hnw, rfl⟩ := hrel
    by_cases hlt : k < ks.length
    · obtain ⟨bk, ok, rfl, ck⟩ := (IntsAt.new HV1.out hnw).cell hlt
      have hlt' : (k : Int) < ks.length := by omega
      obtain ⟨kd, hkd⟩ : ∃ kd, kd = ks.getD k 0 := ⟨_, rfl⟩
      rw [← hkd] at ck
      have Hnw := Lib.hid hnw
      by_cases n0 : kd < 0
      · clear hks hkd hnw
        go_wp2
        go_ret
        exact ⟨rfl, Hnw.out⟩
      by_cases n4 : 4 < kd
      · clear hks hkd hnw
        go_wp2
        go_ret
        exact ⟨rfl, Hnw.out⟩
      have H5 : Hid (∀ x ∈ ks.take (k + 1), 0 ≤ x ∧ x ≤ 4) := by
        intro x hx
        rw [List.take_add_one, List.getElem?_eq_getElem hlt] at hx
        rcases List.mem_append.1 hx with hx | hx
        · exact hks x hx
        · have e : x = kd := by rw [hkd, List.getD_eq_getElem?_getD, List.getElem?_eq_getElem hlt]; simpa using hx
          omega
      clear hks hkd hnw
      go_wp2
      go_roundg (ks.length - (k + 1))
      case measure => omega
      case rel => exact ⟨k + 1, hlt, by go_num, H5.out, Hnw.out, rfl⟩
    · obtain rfl : k = ks.length := by omega
      have hnl : ¬ ((ks.length : Int) < ks.length) := by omega
      rw [List.take_length] at hks
      have Hks := Lib.hid hks
      have HN0 := Lib.hid hnw
      have HW1 := Lib.hid (IntsAt.new HV1.out hnw)
      have HW2 := Lib.hid (HV2.out.new hnw)
      have HW3 := Lib.hid (IntsAt.new HV3.out hnw)
      clear hks hnw hlt
      go_wp2_with fail
      refine (writes_n _ _ _ _ ks ps rs ks.length rfl HW1.out HW2.out HW3.out (by omega) (by omega)).mono ?_
      rintro e wA ⟨xa, xc, bvs, rfl, hcoA, hnA⟩
      have HcoA := Lib.hid hcoA
      have HnA := Lib.hid hnA
      have hlenA : (writesR ks ps rs).length = ks.length := by rw [writesR_length]
      have HlenA := Lib.hid hlenA
      have hzA := hnA.size
      have HX5 : Hid ((wA.alloc (.cells (three 4 1 4) 44)).ownsRow wr.heap.size 44 4 (.slice xa ks.length xc) ks.length (callsV (writesR ks ps rs) bvs)) := by
        have h8 := hcoA.own
        rw [hlenA] at h8
        exact h8.alloc _
      have HE0 := Lib.hid (three_cells wA 4 1 4)
      unfold three at HX5 HE0
      clear hcoA hnA hlenA
      go_wp2_with (at_builtin; refine wpList_append_row rfl _ _ 41 rfl wr.heap.size 44 j0 (.agg #[.int .i64 0, .int .i64 0, .int .u8 0, .slice none 0 0]) 4 48 Tryd.underlying41 hj hy0 hy1 hy2 (by rfl) (by decide) _ ks.length (callsV (writesR ks ps rs) bvs) rfl HX5.out (some ⟨wA.heap.size, 0, none⟩) 3 3 (three 4 1 4).toList (by rfl) (by intro e; cases e) (by rfl) HE0.out (three_one 4 1 4) (by unfold maxLen; omega) (by omega) (by simp; omega) ?_)
      intro ya yc wB hoB hgB hbB
      have hnB0 : New wA (wA.alloc (.cells (three 4 1 4) 44)) := (Keep.refl _ _).alloc _
      have hcoB : CallsOwn wB wr.heap.size (.slice ya (ks.length + 3) yc) (writesR ks ps rs ++ [callK 4, callK 1, callK 4]) (bvs ++ List.replicate 3 (.slice none 0 0)) := by
        refine HcoA.out.more (ds := [callK 4, callK 1, callK 4]) hnB0 hgB (fun d hd => by simp at hd; rcases hd with rfl | rfl | rfl <;> rfl) ?_ (fun i hi => ?_)
        · rw [HlenA.out]; exact hoB
        · rcases hbB i hi with h | h
          · exact .inl h
          · first | exact .inr h | (right; rw [h]; simp [three])
      have hkB : New wr wB := (HnA.out.then hnB0).trans ((Keep.refl (fun i => (Value.slice xa ks.length xc).ownBlock = some i) _).grown hgB (fun i hi => .inl hi)) (fun i hi e => by have := (HcoA.out.own.lt i e).1; omega)
      obtain ⟨fu, hfu⟩ : ∃ fu, fu = writesR ks ps rs ++ [callK 4, callK 1, callK 4] := ⟨_, rfl⟩
      obtain ⟨cs1, hcs1⟩ : ∃ cs1, cs1 = writesR ks ps rs ++ [callK 4] := ⟨_, rfl⟩
      have hf1 : fu = cs1 ++ [callK 1, callK 4] := by rw [hfu, hcs1]; simp
      have hN : ks.length + 3 = fu.length := by rw [hfu, List.length_append, HlenA.out]; rfl
      have hM : fu.length = cs1.length + 2 := by rw [hf1]; simp
      rw [← hfu] at hcoB
      have hcw : callsW fu ≤ 1048576 * 5 + 12 := by
        rw [hfu, callsW_append]
        have := callsW_writes ks ps rs
        simp [callsW, callK]; omega
      rw [hN] at hcoB ⊢
      have hcallB := hcoB.calls
      have hcap : fu.length ≤ yc := by obtain ⟨_, _, _, e, q, _⟩ := id hcallB; simp only [Value.slice.injEq] at e; omega
      have HcsB := Lib.hid hcallB
      have Hc1 : Hid (CallsAt wB (.slice ya cs1.length yc) cs1) := by
        rw [hf1] at hcallB
        exact hcallB.upto
      have Hfu := Lib.hid hfu
      have Hcs1 := Lib.hid hcs1
      have Hf1 := Lib.hid hf1
      have HM := Lib.hid hM
      have hsub : (fu.length : Int) - 2 = cs1.length := by omega
      have hfl : fu.length ≤ 1048576 + 3 := by omega
      have hcl : cs1.length ≤ 1048576 + 3 := by omega
      have hc1w : (asks cs1).length ≤ 1048576 * 5 + 12 := by
        have h8 := asks_le cs1
        have h9 : callsW cs1 ≤ callsW fu := by rw [hf1, callsW_append]; omega
        omega
      have Hc1w := Lib.hid hc1w
      have Hcw := Lib.hid hcw
      have HNB := Lib.hid (HN0.out.then hkB)
      have hbB1 : B0 ≤ wB.heap.size := by have := (HN0.out.then hkB).size; omega
      have hsl := slice_upto_any (P := Tryd.prog) 41 44 4 Tryd.underlying41 sizeCall ya fu.length yc cs1.length (by omega) .i64
      have HA0 : Hid (AllInv wB cs1 cs1.length (.slice none 0 0) (.int .i64 0) wB) := ⟨0, none, 0, 0, [], Nat.zero_le _, rfl, rfl, rfl, rfl, by simpa [bytesV] using World.ownsRow_nil wB wB.heap.size 5 1, Keep.refl _ _, rfl⟩
      clear hoB hgB hbB hnB0 hcoB hkB hfu hcs1 hf1 hN hM hcw hc1w hcallB
      go_wp2_with fail
      clear hsl hsub
      go_loopg [14, 52, 16] cs1.length (fun g v i x16 wr => AllInv wB cs1 g v i wr)
      case atStart => exact HA0.out
      case round =>
        obtain ⟨k, ao, co, nn, x, hk, rfl, rfl, hnn, hxx, hown, hnw, rfl⟩ := hrel
        have hxle : nn ≤ 1048576 * 5 + 12 := by rw [hnn, hxx]; have := asks_take_le cs1 k; have := Hc1w.out; omega
        by_cases hlt : k < cs1.length
        · obtain ⟨y, hy⟩ : ∃ y, cs1[k]? = some y := ⟨_, List.getElem?_eq_getElem hlt⟩
          obtain ⟨bc, oc, bv, rfl, hbv, hcell⟩ := (Hc1.out.new hnw).at hy
          obtain ⟨ab, cbv, rfl, _⟩ := id hbv
          rw [bytesV_length] at hbv hcell
          have e0 := hcell 0 (.int .i64 y.kind) rfl
          have e1 := hcell 1 (.int .i64 y.n) rfl
          have e2 := hcell 2 (.int .u8 (y.delim.toNat : Int)) rfl
          have e3 := hcell 3 (.slice ab y.bytes.length cbv) rfl
          rw [show oc + (k * 4 + 0) = oc + k * 4 by omega] at e0
          rw [show oc + (k * 4 + 1) = oc + k * 4 + 1 by omega] at e1
          rw [show oc + (k * 4 + 2) = oc + k * 4 + 2 by omega] at e2
          rw [show oc + (k * 4 + 3) = oc + k * 4 + 3 by omega] at e3
          have htk := asks_take_succ hy
          obtain ⟨q, hq⟩ : ∃ q, q = ask y := ⟨_, rfl⟩
          have hql : q.length ≤ 1048576 * 5 + 12 := by
            have h8 := asks_take_le cs1 (k + 1)
            have h9 := Hc1w.out
            rw [htk, List.length_append, ← hq] at h8
            omega
          have hn4 : New wr (wr.alloc (.cells #[.int .i64 y.kind, .int .i64 y.n, .int .u8 (y.delim.toNat : Int), .slice ab y.bytes.length cbv] 44)) := (Keep.refl _ _).alloc _
          have HBv := Lib.hid (hbv.new hn4)
          have HN4 := Lib.hid hn4
          have Hown := Lib.hid hown
          have Hnw := Lib.hid hnw
          have Hq := Lib.hid hq
          have Htk := Lib.hid htk
          have Hnn := Lib.hid hnn
          have Hxx := Lib.hid hxx
          have hbase := hnw.size
          have hlt' : (k : Int) < cs1.length := by omega
          clear hcell hbv htk hn4 hown hnw hq hnn hxx hy
          go_wp2_with fail
          refine (asked_any _ y _ HBv.out).mono ?_
          rintro e w4 ⟨va, rfl, hb4, hn4⟩
          rw [← Hq.out] at hb4
          obtain ⟨aa, ca, rfl, _⟩ := id hb4
          rw [bytesV_length] at hb4 ⊢
          have Hpp := Lib.hid (RowAt.parts hb4)
          have HN5 := Lib.hid (HN4.out.then hn4)
          have hz4 := (HN4.out.then hn4).size
          have Ho2' : Hid (w4.ownsRow wB.heap.size 5 1 (.slice ao nn co) nn (bytesV x)) := ownsRow_keep Hown.out HN5.out (fun _ _ f => f)
          have hb5' : wB.heap.size ≤ w4.heap.size := by omega
          have Hbl1 : Hid ((bytesV q).length = q.length * 1) := by show _ = _; rw [bytesV_length, Nat.mul_one]
          have hby4 : (nn + q.length) * 1 ≤ 140737488355328 := by omega
          have hml4 : nn + q.length ≤ maxLen := by unfold maxLen; omega
          have Hby4 := Lib.hid hby4
          have Hml4 := Lib.hid hml4
          clear hb4 hn4 hby4 hml4
          go_wp2_with (at_builtin; refine wpList_append_row rfl _ _ 27 rfl wB.heap.size 5 i1 (.int .u8 0) 1 1 Tryd.underlying27 hx hx0 hx1 hx2 (by rfl) (by decide) _ nn (bytesV x) rfl Ho2'.out aa q.length ca (bytesV q) (by rfl) Hpp.out.2.2.1 Hbl1.out Hpp.out.2.2.2 (bytesV_one _) Hml4.out Hby4.out hb5' ?_)
          intro a5 c5 w5 ho5 hg5 hb5
          have H5 : Hid (AllInv wB cs1 (cs1.length - (k + 1)) (.slice a5 (nn + q.length) c5) (.int .i64 ((k : Int) + 1)) w5) := by
            have hk5 : Keep (fun i => (Value.slice ao nn co).ownBlock = some i) w4 w5 := (Keep.refl _ w4).grown hg5 (fun i hi => .inl hi)
            refine ⟨k + 1, a5, c5, nn + q.length, x ++ q, hlt, by rw [show (((k + 1 : Nat)) : Int) = (k : Int) + 1 by omega], rfl, by rw [List.length_append, Hnn.out], by rw [Htk.out, Hxx.out, Hq.out], ?_, ?_, rfl⟩
            · rw [show bytesV (x ++ q) = bytesV x ++ bytesV q from by simp [bytesV]]; exact ho5
            · exact (Hnw.out.then HN5.out).trans hk5 (fun i hi e => by have := (Hown.out.lt i e).1; omega)
          clear ho5 hg5 hb5
          go_wp2
          go_roundg (cs1.length - (k + 1))
          case measure => omega
          case rel => exact H5.out
        · obtain rfl : k = cs1.length := by omega
          have hnl1 : ¬ ((cs1.length : Int) < cs1.length) := by omega
          rw [List.take_length] at hxx
          have hxa : asks (writesR ks ps rs) = x := by rw [hxx, Hcs1.out, asks_append]; simp [asks, ask, callK]
          have Hxa := Lib.hid hxa
          have Hnn := Lib.hid hnn
          have Hown := Lib.hid hown
          have HcsC := Lib.hid (HcsB.out.new hnw)
          have HNr := Lib.hid (HNB.out.then hnw)
          have HEr := Lib.hid (HE.out.keep (HNB.out.then hnw) (fun _ _ f => f))
          have hbr : B0 ≤ wr.heap.size := by have := hnw.size; omega
          have Hnw := Lib.hid hnw
          have hcwf : callsW fu ≤ 1099511627776 := by have := Hcw.out; omega
          have hclf : fu.length ≤ 1099511627776 := by omega
          clear hxx hxa hnn hown hnw hlt
          go_wp2_with fail
          refine (writerRun_any2 _ B0 ad HEr.out hbr n room 0 _ fu HcsC.out h1 h2 r1 r2 (by omega) (by omega) hcwf hclf).mono ?_
          rintro e wC ⟨outs, st, vo, vx, vy, hruns, rfl, hoC, hxg, hyy, hnC⟩
          have hlenO : outs.length = fu.length := hruns.length
          rw [Hfu.out] at hruns
          obtain ⟨p1, p2, ef, p3, p4, p5, p6⟩ := sticky_run hwb (kinds_writes Hks.out) hruns
          rw [Hxa.out] at p2 p4
          rw [p2] at hxg
          rw [hlenO] at hoC
          have hL3 : (writesR ks ps rs).length + 3 = fu.length := by rw [Hfu.out, List.length_append]; rfl
          rw [hL3] at p4 p5
          obtain ⟨oa, od, rfl⟩ := ownsRow_slice hoC
          have HoC := Lib.hid hoC
          obtain ⟨z, hz⟩ : ∃ z, z = (x ++ [0]).take room.toNat := ⟨_, rfl⟩
          rw [← hz] at hxg
          obtain ⟨ga, gc, rfl⟩ := ownsRow_slice hxg
          have Hz := Lib.hid hz
          have Hxg := Lib.hid hxg
          have HownC : Hid (wC.ownsRow wB.heap.size 5 1 (.slice ao nn co) nn (bytesV x)) := ownsRow_keep Hown.out hnC (fun _ _ f => f)
          have HapC : Hid (∀ i, (Value.slice ga z.length gc).ownBlock = some i → (Value.slice ao nn co).ownBlock ≠ some i) := fun i hi e => by have h8 := (Hown.out.lt i e).2; have h9 := (hxg.lt i hi).1; omega
          have hBC : wB.heap.size ≤ wC.heap.size := by have := Hnw.out.size; have := hnC.size; omega
          have HNC := Lib.hid (HNr.out.then hnC)
          have HlenO := Lib.hid hlenO
          have Hp4 := Lib.hid p4
          have Hp5 := Lib.hid p5
          have Hp6 := Lib.hid p6
          have HnC := Lib.hid hnC
          have HwC := Lib.hid hnC.size
          have HF0 : Hid (FInv wC ef fu.length fu.length (.bool false) (.int .i64 0) wC) := ⟨0, Nat.zero_le _, rfl, by rw [p3], Keep.refl _ _, rfl⟩
          clear hruns hoC hxg hyy hnC p1 p2 p3 p4 p5 p6 hlenO hL3 HcsC hcwf hz
          go_wp2_with fail
          go_loopg [20, 78, 22] fu.length (fun g vf i x22 wr => FInv wC ef fu.length g vf i wr)
          case atStart => exact HF0.out
          case round =>
            obtain ⟨k, hk, rfl, rfl, hnw, rfl⟩ := hrel
            by_cases hlt : k < fu.length
            · obtain ⟨o, ho⟩ : ∃ o, outs[k]? = some o := ⟨_, List.getElem?_eq_getElem (by rw [HlenO.out]; exact hlt)⟩
              obtain ⟨g1, d1, e1, q1, r1'⟩ := outs_at (by rw [HlenO.out]; exact ownsRow_keep HoC.out hnw (fun _ _ f => f)) ho
              simp only [Value.slice.injEq] at e1
              obtain ⟨rfl, -, rfl⟩ := e1
              obtain ⟨on, oe⟩ := o
              have hoe : oe = errN (ef (k + 1)) := Hp6.out k _ ho
              have s0 := r1' 0 (.slice none 0 0) rfl
              have s1 := r1' 1 (.int .i64 on) rfl
              have s2 := r1' 2 (.int .i32 0) rfl
              have s3 := r1' 3 (.bool false) rfl
              have s4 := r1' 4 (.int .i64 oe) rfl
              rw [Nat.add_zero] at s0
              have hlt' : (k : Int) < fu.length := by omega
              have hmono := Hp5.out k hlt
              obtain ⟨f1, hf1⟩ : ∃ f, f = ef (k + 1) := ⟨_, rfl⟩
              obtain ⟨f0, hf0⟩ : ∃ f, f = ef k := ⟨_, rfl⟩
              rw [← hf1] at hoe hmono
              rw [← hf0] at hmono ⊢
              have Hf1 := Lib.hid hf1
              have HnA' : Hid (New wC (wr.alloc (.cells #[.slice none 0 0, .int .i64 on, .int .i32 0, .bool false, .int .i64 oe] 50))) := hnw.alloc _
              clear r1' ho hnw hf1 hf0
              cases f1 with
              | false =>
                cases f0 with
                | true => simp at hmono
                | false =>
                  have hoe0 : oe = 0 := hoe
                  subst hoe0
                  clear hoe hmono
                  go_wp2
                  go_roundg (fu.length - (k + 1))
                  case measure => omega
                  case rel => exact ⟨k + 1, hlt, by go_num, by rw [← Hf1.out], HnA'.out, rfl⟩
              | true =>
                have hoe9 : oe = 9 := hoe
                subst hoe9
                clear hoe hmono
                cases f0 with
                | true =>
                  go_wp2
                  go_roundg (fu.length - (k + 1))
                  case measure => omega
                  case rel => exact ⟨k + 1, hlt, by go_num, by rw [← Hf1.out], HnA'.out, rfl⟩
                | false =>
                  go_wp2
                  go_roundg (fu.length - (k + 1))
                  case measure => omega
                  case rel => exact ⟨k + 1, hlt, by go_num, by rw [← Hf1.out], HnA'.out, rfl⟩
            · obtain rfl : k = fu.length := by omega
              have hnl2 : ¬ ((fu.length : Int) < fu.length) := by omega
              have hNl : nn = x.length := Hnn.out
              have HoE : Hid ((wr.alloc (.cells #[.int .u8 0] 5)).ownsRow wB.heap.size 5 1 (.slice ao nn co) nn (bytesV x)) := (ownsRow_keep HownC.out hnw (fun _ _ f => f)).alloc _
              have HxE : Hid ((wr.alloc (.cells #[.int .u8 0] 5)).ownsRow _ 5 1 (.slice ga z.length gc) z.length (bytesV z)) := (ownsRow_keep Hxg.out hnw (fun _ _ f => f)).alloc _
              have HE0 : Hid (∀ ad', some (⟨wr.heap.size, 0, none⟩ : Addr) = some ad' → CellsAt (wr.alloc (.cells #[.int .u8 0] 5)) ad' [.int .u8 0]) := by
                intro ad' e' j u hu
                cases e'
                rw [addr_add, Nat.zero_add]
                exact (cell_new wr #[.int .u8 0] 5 j).trans (by simpa using hu)
              have HE1 : Hid (∀ u ∈ [(Value.int .u8 0)], u.oneCell' = true) := by intro u hu; simp at hu; subst hu; rfl
              have HNw := Lib.hid ((HNC.out.then hnw).alloc (.cells #[.int .u8 0] 5))
              have hbw : wB.heap.size ≤ wr.heap.size + 1 := by have := hnw.size; omega
              have hby4 : (nn + 1) * 1 ≤ 140737488355328 := by omega
              have hml4 : nn + 1 ≤ maxLen := by unfold maxLen; omega
              have Hby4 := Lib.hid hby4
              have Hml4 := Lib.hid hml4
              have Hbw : Hid (wB.heap.size ≤ (wr.alloc (.cells #[.int .u8 0] 5)).heap.size) := by show _ ≤ _; simp; omega
              clear hnw hNl hby4 hml4
              go_wp2_with (at_builtin; refine wpList_append_row rfl _ _ 27 rfl wB.heap.size 5 i1 (.int .u8 0) 1 1 Tryd.underlying27 hx hx0 hx1 hx2 (by rfl) (by decide) _ nn (bytesV x) rfl HoE.out (some ⟨wr.heap.size, 0, none⟩) 1 1 [.int .u8 0] (by rfl) (by intro e; cases e) (by rfl) HE0.out HE1.out Hml4.out Hby4.out Hbw.out ?_)
              intro a5 c5 w5 ho5 hg5 hb5
              have hk5 : Keep (fun i => (Value.slice ao nn co).ownBlock = some i) (wr.alloc (.cells #[.int .u8 0] 5)) w5 := (Keep.refl _ _).grown hg5 (fun i hi => .inl hi)
              obtain ⟨y, hy⟩ : ∃ y, y = x ++ [0] := ⟨_, rfl⟩
              have hyl : nn + 1 = y.length := by rw [hy, List.length_append, Hnn.out]; rfl
              have ho5' : w5.ownsRow wB.heap.size 5 1 (.slice a5 (nn + 1) c5) (nn + 1) (bytesV y) := by rw [hy, show bytesV (x ++ [0]) = bytesV x ++ [.int .u8 0] from by rw [bytesV_append]; rfl]; exact ho5
              rw [hyl] at ho5' ⊢
              have hr5 : BytesAt w5 (.slice a5 y.length c5) y := ownsRow_rowAt ho5'
              have hxz : BytesAt w5 (.slice ga z.length gc) z := ownsRow_rowAt (ownsRow_keep HxE.out hk5 (fun i hi e => HapC.out i hi e))
              have hN5 : New w w5 := HNw.out.trans hk5 (fun i hi e => by have := (HownC.out.lt i e).1; have := HNB.out.size; omega)
              have hyc : y.length ≤ c5 := by have := (RowAt.parts hr5).2.1; rw [bytesV_length] at this; exact this
              have hyb : y.length ≤ 1048576 * 5 + 13 := by omega
              have hy1 : 1 ≤ y.length := by omega
              have Hzy : Hid (z = y.take room.toNat) := by show _ = _; rw [Hz.out, hy]
              have hp4 : ef fu.length = true ↔ room < (y.length : Int) := by rw [hy]; exact Hp4.out
              have hrk : ∀ kk : Nat, kk ≤ y.length → BytesAt w5 (.slice a5 kk c5) (y.take kk) := fun kk hkk => by
                have := RowAt.upto hr5 (k := kk) (by rw [bytesV_length]; exact hkk)
                rw [show (bytesV y).take kk = bytesV (y.take kk) from by simp [bytesV]] at this
                exact this
              have Hrk := Lib.hid hrk
              have Hxz := Lib.hid hxz
              have HN5 := Lib.hid hN5
              have hzl : z.length ≤ 9223372036854775807 := by rw [Hzy.out]; simp; omega
              clear ho5 hg5 hb5 hk5 hy hyl ho5' hr5 hxz hN5 hrk hbw
              by_cases hc : room < (y.length : Int)
              · have hef := hp4.2 hc
                rw [hef]
                clear hp4 hef
                by_cases hc0 : 0 < room
                · obtain ⟨kk, rfl⟩ : ∃ kk : Nat, room = kk := ⟨room.toNat, by omega⟩
                  have hsl := slice_upto (P := Tryd.prog) 27 5 Tryd.underlying27 sizeByte a5 y.length c5 kk (by omega) .i64
                  have Hrz := Lib.hid (Hrk.out kk (by omega))
                  have Hzt : Hid (true = decide (z = y.take kk)) := by show _ = _; rw [Hzy.out]; simp
                  go_wp2_with fail
                  refine (equal_gen _ _ _ z (y.take kk) Hxz.out Hrz.out hzl true Hzt.out).mono ?_
                  rintro e w6 ⟨rfl, hn6⟩
                  go_wp2
                  go_ret
                  exact ⟨rfl, HN5.out.then hn6⟩
                · have hsl0 : ∀ w, (Instr.slice 27 (.slice a5 y.length c5) none (some (.int .i64 0)) none).run Tryd.prog w = .ok (.slice a5 0 c5) w := slice_upto (P := Tryd.prog) 27 5 Tryd.underlying27 sizeByte a5 y.length c5 0 (by omega) .i64
                  have Hrz := Lib.hid (Hrk.out 0 (by omega))
                  have Hzt : Hid (true = decide (z = y.take 0)) := by show _ = _; rw [Hzy.out, show room.toNat = 0 by omega]; simp
                  go_wp2_with fail
                  refine (equal_gen _ _ _ z (y.take 0) Hxz.out Hrz.out hzl true Hzt.out).mono ?_
                  rintro e w6 ⟨rfl, hn6⟩
                  go_wp2
                  go_ret
                  exact ⟨rfl, HN5.out.then hn6⟩
              · have hef : ef fu.length = false := by
                  cases hx' : ef fu.length with
                  | false => rfl
                  | true => exact absurd (hp4.1 hx') hc
                rw [hef]
                clear hp4 hef
                have hsl := slice_upto (P := Tryd.prog) 27 5 Tryd.underlying27 sizeByte a5 y.length c5 y.length hyc .i64
                have hrz := Hrk.out y.length (Nat.le_refl _)
                rw [List.take_length] at hrz
                have Hrz := Lib.hid hrz
                have Hzt : Hid (true = decide (z = y)) := by show _ = _; rw [Hzy.out, List.take_of_length_le (by omega)]; simp
                clear hrz
                have hcase : room = (y.length : Int) ∨ (y.length : Int) < room := by omega
                have hyp : (0 : Int) < y.length := by omega
                clear hc
                rcases hcase with e1 | e1
                · subst e1
                  go_wp2_with fail
                  refine (equal_gen _ _ _ z y Hxz.out Hrz.out hzl true Hzt.out).mono ?_
                  rintro e w6 ⟨rfl, hn6⟩
                  go_wp2
                  go_ret
                  exact ⟨rfl, HN5.out.then hn6⟩
                · have hle : ¬ room ≤ (y.length : Int) := by omega
                  go_wp2_with fail
                  refine (equal_gen _ _ _ z y Hxz.out Hrz.out hzl true Hzt.out).mono ?_
                  rintro e w6 ⟨rfl, hn6⟩
                  go_wp2
                  go_ret
                  exact ⟨by first | rfl | (show Ending.returned (.bool (!decide (room < (y.length : Int)))) = _; rw [decide_eq_false (by omega)]; rfl), HN5.out.then hn6⟩
end Go.Proofs.YtjihbkmbbcdnfaaDoor
