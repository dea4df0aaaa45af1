/-
  The walk of the law FnRunesWritten.
-/
import Derived.Test.YtfigpbcmnlkdjaaDoorReadRs
import Derived.Test.YtfigpbcmnlkdjaaDoorEncR
namespace Go.Proofs.YtfigpbcmnlkdjaaDoor
open Go.RowKit

/-- A number cut to 32 bits. -/
def i32of (n : Int) : Int := (n + 2147483648) % 4294967296 - 2147483648
theorem i32of_bounds (n : Int) : -2147483648 ≤ i32of n ∧ i32of n ≤ 2147483647 := by unfold i32of; omega
theorem wrap32_i32 (n : Int) : wrap32 n = i32of n := by unfold wrap32 i32of; rfl

theorem IntsAt.cell {w : World} {a : Option Addr} {n c : Nat} {l : List Int} (h : IntsAt w (.slice a n c) l) {k : Nat} (hk : k < l.length) : ∃ b o, a = some ⟨b, o, none⟩ ∧ w.cell? ⟨b, o + k, none⟩ = some (.int .i64 (l.getD k 0)) := by
  obtain ⟨b, o, e, hc⟩ := RowAt.one h (i := k) (by rw [intsV_length]; exact hk)
  refine ⟨b, o, e, ?_⟩
  rw [hc k (by rw [intsV_length]; exact hk)]
  simp [intsV, intV, hk]
theorem IntsAt.len {w : World} {v : Value} {l : List Int} (h : IntsAt w v l) : ∃ a c, v = .slice a l.length c ∧ l.length ≤ 9223372036854775807 := by
  obtain ⟨a, c, e, h1, h2, _⟩ := h
  rw [intsV_length] at e h1
  exact ⟨a, c, e, by unfold maxLen at h2; omega⟩

/-- The bytes of numbers as runes. -/
def rsB (rs : List Int) : List UInt8 := joined (rs.map fun r => runeB (i32of r))
def rsZ (rs : List Int) : List Int := rs.map fun r => sane (i32of r)

theorem rsB_succ (rs : List Int) (k : Nat) (h : k < rs.length) : rsB (rs.take (k + 1)) = rsB (rs.take k) ++ runeB (i32of (rs.getD k 0)) := by
  unfold rsB
  rw [List.map_take, List.map_take]
  refine joined_take_succ _ k _ ?_
  rw [List.getElem?_map, List.getElem?_eq_getElem h, List.getD_eq_getElem?_getD, List.getElem?_eq_getElem h]
  rfl
theorem rsB_length : ∀ rs : List Int, (rsB rs).length ≤ 4 * rs.length
  | [] => by simp [rsB, joined]
  | r :: rs => by
    have h1 := rsB_length rs
    have h2 := runeB_length (i32of r)
    unfold rsB joined at *
    simp only [List.map_cons, List.flatten_cons, List.length_append, List.length_cons]
    omega
theorem rsB_take_le (rs : List Int) (k : Nat) : (rsB (rs.take k)).length ≤ 4 * rs.length := by
  have h1 := rsB_length (rs.take k)
  have h2 : (rs.take k).length ≤ rs.length := by simp [List.length_take]; omega
  omega
theorem rsB_left (rs : List Int) : rsB rs = runesLeft (rsZ rs) 0 := by
  unfold rsB runesLeft rsZ
  rw [List.drop_zero, List.map_map]
  congr 1
  apply List.map_congr_left
  intro r _
  exact (runeB_sane _).symm
theorem rsZ_rune (rs : List Int) : ∀ z ∈ rsZ rs, Rune z := by
  intro z hz
  unfold rsZ at hz
  obtain ⟨r, _, rfl⟩ := List.mem_map.1 hz
  exact sane_rune _
theorem rsZ_length (rs : List Int) : (rsZ rs).length = rs.length := by simp [rsZ]
theorem rsZ_getD (rs : List Int) (k : Nat) (h : k < rs.length) : (rsZ rs).getD k 0 = sane (i32of (rs.getD k 0)) := by simp [rsZ, h]
theorem runeOut_at (rs : List Int) (k : Nat) (h : k < rs.length) : runeOut (rsZ rs) k = ⟨.slice none 0 0, (runeB (i32of (rs.getD k 0))).length, sane (i32of (rs.getD k 0)), 0⟩ := by
  unfold runeOut
  rw [if_pos (by rw [rsZ_length]; exact h), rsZ_getD rs k h, runeB_sane]
theorem runeOut_end (rs : List Int) : runeOut (rsZ rs) rs.length = ⟨.slice none 0 0, 0, 0, 1⟩ := by
  unfold runeOut
  rw [if_neg (by rw [rsZ_length]; omega)]

def RWInv (w : World) (rs : List Int) (g : Nat) (v7 i : Value) (wr : World) : Prop :=
  ∃ (k : Nat) (a : Option Addr) (c n7 : Nat) (x : List UInt8), k ≤ rs.length ∧ i = .int .i64 k ∧ v7 = .slice a n7 c ∧ n7 = x.length ∧ x = rsB (rs.take k) ∧ wr.ownsRow w.heap.size 5 1 v7 n7 (bytesV x) ∧ New w wr ∧ g = rs.length - k

def RVInv (w : World) (n : Nat) (g : Nat) (i : Value) (wr : World) : Prop := ∃ k : Nat, k ≤ n ∧ i = .int .i64 k ∧ New w wr ∧ g = n - k

set_option maxRecDepth 100000 in
set_option maxHeartbeats 4000000 in
theorem walkFnRunesWritten (w : World) (B0 : Nat) (ad : Nat → Addr) (hE : Errs w B0 ad) (hB0 : B0 ≤ w.heap.size) (hT : Tabs w) (hTB : 9 < B0 ∧ 10 < B0) (n : Int) (v vc : Value) (rs cuts : List Int) (h1 : -32768 ≤ n) (h2 : n ≤ 32767)
    (hv : IntsAt w v rs) (hvc : IntsAt w vc cuts) (hcl : cuts.length * 8 ≤ 140737488355328) :
    Calls Tryd.prog 4 #[.int .i16 n, v, vc] w fun e w' => e = .returned (.bool true) ∧ New w w' := by
  obtain ⟨av, cv, rfl, hm⟩ := hv.len
  by_cases hbig : 65000 < rs.length
  · have hb' : (65000 : Int) < rs.length := by omega
    clear hv hE hT hvc
    go_enter Tryd.func4, Tryd.ntmps4
    go_wp2
    go_ret
    exact ⟨rfl, Keep.refl _ _⟩
  · have hb' : ¬ (65000 : Int) < rs.length := by omega
    obtain ⟨i1, hx, hx0, hx1, hx2⟩ := info_parts infoByte
    have HV := Lib.hid hv
    have HC := Lib.hid hvc
    have HE := Lib.hid hE
    have HT := Lib.hid hT
    have H0 : Hid (RWInv w rs rs.length (.slice none 0 0) (.int .i64 0) w) := ⟨0, none, 0, 0, [], Nat.zero_le _, rfl, rfl, rfl, rfl, by simpa [bytesV] using World.ownsRow_nil w w.heap.size 5 1, Keep.refl _ _, rfl⟩
    clear hv hE hT hvc
    go_enter Tryd.func4, Tryd.ntmps4
    go_wp2_with fail
    go_loopg [7, 19, 9] rs.length (fun g v7 i x9 wr => RWInv w rs g v7 i wr)
    case atStart => exact H0.out
    case round =>
      obtain ⟨k, a2, c2, n7, x, hk, rfl, rfl, hn7, hxx, ho2, hnw, rfl⟩ := hrel
      have hx4 : n7 ≤ 4 * rs.length := by rw [hn7, hxx]; exact rsB_take_le rs k
      by_cases hlt : k < rs.length
      · obtain ⟨bk, ok, rfl, ck⟩ := (IntsAt.new HV.out hnw).cell hlt
        have hlt' : (k : Int) < rs.length := by omega
        obtain ⟨rn, hrn⟩ : ∃ rn, rn = rs.getD k 0 := ⟨_, rfl⟩
        rw [← hrn] at ck
        obtain ⟨rr, hrr⟩ : ∃ rr : Int, rr = i32of rn := ⟨_, rfl⟩
        have hib := i32of_bounds rn
        rw [← hrr] at hib
        have Hrr := Lib.hid hrr
        obtain ⟨m, hm⟩ : ∃ m, (runeB rr).length = m := ⟨_, rfl⟩
        have hmb := runeB_length rr
        rw [hm] at hmb
        have Hm := Lib.hid hm
        have Hbl : Hid ((bytesV (runeB rr)).length = m * 1) := by show _ = _; rw [bytesV_length, hm, Nat.mul_one]
        have Hrn := Lib.hid hrn
        have hbase := hnw.size
        have Ho2 := Lib.hid ho2
        have Hnw := Lib.hid hnw
        have Hn7 := Lib.hid hn7
        have Hxx := Lib.hid hxx
        clear ho2 hnw hn7 hxx hm hrn hrr
        go_wp2_with fail
        rw [wrap32_i32, ← Hrr.out]
        refine (encoded_new _ rr hib.1 hib.2 m Hm.out).mono ?_
        rintro e w4 ⟨rfl, hz4, hc4, hn4⟩
        have Hn4 := Lib.hid hn4
        have HE0 := Lib.hid hc4
        have Ho2' : Hid (w4.ownsRow w.heap.size 5 1 (.slice a2 n7 c2) n7 (bytesV x)) := ownsRow_keep Ho2.out hn4 (fun _ _ f => f)
        have HB1 : Hid (∀ u ∈ bytesV (runeB rr), u.oneCell' = true) := bytesV_one _
        have hb4 : w.heap.size ≤ w4.heap.size := by omega
        have hml4 : n7 + m ≤ maxLen := by unfold maxLen; omega
        clear hc4 hn4
        go_wp2_with (at_builtin; refine wpList_append_row rfl _ _ 23 rfl w.heap.size 5 i1 (.int .u8 0) 1 1 Tryd.underlying23 hx hx0 hx1 hx2 (by rfl) (by decide) _ n7 (bytesV x) rfl Ho2'.out (some ⟨wr.heap.size, 0, none⟩) m m (bytesV (runeB rr)) (by rfl) (by intro e; cases e) Hbl.out HE0.out HB1.out hml4 (by omega) hb4 ?_)
        intro a5 c5 w5 ho5 hg5 hb5
        have H5 : Hid (RWInv w rs (rs.length - (k + 1)) (.slice a5 (n7 + m) c5) (.int .i64 ((k : Int) + 1)) w5) := by
          have hk5 : Keep (fun i => (Value.slice a2 n7 c2).ownBlock = some i) w4 w5 := (Keep.refl _ w4).grown hg5 (fun i hi => .inl hi)
          refine ⟨k + 1, a5, c5, n7 + m, x ++ runeB rr, hlt, by rw [show (((k + 1 : Nat)) : Int) = (k : Int) + 1 by omega], rfl, by rw [List.length_append, Hm.out, Hn7.out], by rw [rsB_succ rs k hlt, ← Hrn.out, ← Hrr.out, ← Hxx.out], ?_, ?_, rfl⟩
          · rw [bytesV_append]; exact ho5
          · exact (Hnw.out.then Hn4.out).trans hk5 (fun i hi e => by have := (Ho2.out.lt i e).1; omega)
        clear ho5 hg5 hb5
        go_wp2
        go_roundg (rs.length - (k + 1))
        case measure => omega
        case rel => exact H5.out
      · obtain rfl : k = rs.length := by omega
        rw [List.take_length] at hxx
        have hnl : ¬ ((rs.length : Int) < rs.length) := by omega
        have Hr : Hid (BytesAt wr (.slice a2 n7 c2) x) := ownsRow_rowAt ho2
        have HNw := Lib.hid hnw
        have HC1 := Lib.hid (IntsAt.new HC.out hnw)
        have Hxx := Lib.hid hxx
        have Hn7 := Lib.hid hn7
        clear ho2 hnw hxx hn7 hlt
        go_wp2_with fail
        refine (source_any wr _ vc 0 false x cuts Hr.out HC1.out (by rw [← Hn7.out]; omega) hcl).mono ?_
        rintro e w3 ⟨dv', cv', rfl, hd3, hc3, hn3⟩
        have HN3 := Lib.hid (HNw.out.then hn3)
        have Hd3 := Lib.hid hd3
        have Hc3 := Lib.hid hc3
        have HE3 := Lib.hid (HE.out.keep (HNw.out.then hn3) (fun _ _ f => f))
        have HT3 := Lib.hid (HT.out.keep (HNw.out.then hn3) (fun f => f) (fun f => f))
        have hB3 : B0 ≤ w3.heap.size := by have := (HNw.out.then hn3).size; omega
        obtain ⟨M, hM⟩ : ∃ M, rs.length + 1 = M := ⟨_, rfl⟩
        have HM := Lib.hid hM
        have hMb : M ≤ 65001 := by omega
        have hM1 : (rs.length : Int) + 1 = M := by omega
        clear hd3 hc3 hn3 hM
        go_wp2_with fail
        refine (readRunes_any w3 B0 ad HE3.out hB3 HT3.out hTB n dv' cv' false (rsZ rs) (rsZ_rune rs) x (by rw [Hxx.out]; exact rsB_left rs) cuts Hd3.out Hc3.out h1 h2 (by rw [← Hn7.out]; omega) hcl M hMb).mono ?_
        rintro e wC ⟨oa, oc, rfl, hoC, hnC⟩
        have HoC := Lib.hid hoC
        have HNC := Lib.hid (HN3.out.then hnC)
        have hend : (runeOuts (rsZ rs) M)[rs.length]? = some ⟨.slice none 0 0, 0, 0, 1⟩ := by
          rw [runeOuts_get _ _ _ (by have := HM.out; omega), runeOut_end]
        obtain ⟨g1, d1, e1, q1, r1⟩ := outsR_at hoC (runeOuts_length _ _) hend
        simp only [Value.slice.injEq] at e1
        obtain ⟨rfl, -, rfl⟩ := e1
        have s4 := r1 4 (.int .i64 1) rfl
        have hlM : (rs.length : Int) < M := by omega
        have H1 : Hid (RVInv wC rs.length rs.length (.int .i64 0) wC) := ⟨0, Nat.zero_le _, rfl, Keep.refl _ _, rfl⟩
        clear hoC hnC hend r1
        go_wp2_with fail
        go_loopg [55, 11, 12, 13] rs.length (fun g i x11 x12 x13 wr => RVInv wC rs.length g i wr)
        case atStart => exact H1.out
        case round =>
          obtain ⟨k, hk, rfl, hnw, rfl⟩ := hrel
          by_cases hlt : k < rs.length
          · obtain ⟨bk, ok, rfl, ck⟩ := (IntsAt.new HV.out (HNC.out.then hnw)).cell hlt
            have hlt' : (k : Int) < rs.length := by omega
            have hltM : (k : Int) < M := by omega
            obtain ⟨rn, hrn⟩ : ∃ rn, rn = rs.getD k 0 := ⟨_, rfl⟩
            have hok : (runeOuts (rsZ rs) M)[k]? = some ⟨.slice none 0 0, (runeB (i32of rn)).length, sane (i32of rn), 0⟩ := by
              rw [runeOuts_get _ _ _ (by have := HM.out; omega), runeOut_at rs k hlt, ← hrn]
            rw [← hrn] at ck
            obtain ⟨rr, hrr⟩ : ∃ rr : Int, rr = i32of rn := ⟨_, rfl⟩
            have hib := i32of_bounds rn
            rw [← hrr] at hib hok
            have Hrr := Lib.hid hrr
            obtain ⟨m, hm⟩ : ∃ m, (runeB rr).length = m := ⟨_, rfl⟩
            rw [hm] at hok
            obtain ⟨zz, hzz⟩ : ∃ zz, zz = sane rr := ⟨_, rfl⟩
            rw [← hzz] at hok
            have hzb : -2147483648 ≤ zz ∧ zz ≤ 2147483647 := by have := sane_rune rr; rw [← hzz] at this; unfold Rune at this; omega
            have Hm2 : Hid ((runeB zz).length = m) := by show _ = _; rw [hzz, runeB_sane]; exact hm
            obtain ⟨g2, d2, e2, q2, r2⟩ := outsR_at (ownsRow_keep HoC.out hnw (fun _ _ f => f)) (runeOuts_length _ _) hok
            simp only [Value.slice.injEq, Option.some.injEq, Addr.mk.injEq] at e2
            obtain ⟨⟨rfl, -, -⟩, -, rfl⟩ := e2
            have t1 := r2 1 (.int .i64 m) rfl
            have t2 := r2 2 (.int .i32 zz) rfl
            have t4 := r2 4 (.int .i64 0) rfl
            have n1 : ((m : Int) != (m : Int)) = false := by simp
            have Hm := Lib.hid hm
            have Hzz := Lib.hid hzz
            have Hnw := Lib.hid hnw
            clear r2 hnw hok hm hrn hrr hzz s4
            go_wp2_with fail
            rw [wrap32_i32, ← Hrr.out]
            refine (encoded_new _ rr hib.1 hib.2 m Hm.out).mono ?_
            rintro e w4 ⟨rfl, hz4, hc4, hn4⟩
            have Hc4 := Lib.hid (hc4 _ rfl)
            have u1 : w4.cell? ⟨g1, k * 5 + 1, none⟩ = some (.int .i64 m) := New.cellAt hn4 t1
            have u2 : w4.cell? ⟨g1, k * 5 + 2, none⟩ = some (.int .i32 zz) := New.cellAt hn4 t2
            have u4 : w4.cell? ⟨g1, k * 5 + 4, none⟩ = some (.int .i64 0) := New.cellAt hn4 t4
            have Hn4 := Lib.hid (Hnw.out.then hn4)
            clear hc4 hn4 t1 t2 t4 hz4
            go_wp2_with fail
            refine (encoded_new _ zz hzb.1 hzb.2 m Hm2.out).mono ?_
            rintro e w5 ⟨rfl, hz5, hc5, hn5⟩
            have Hx5 : Hid (BytesAt w5 (.slice (some ⟨w4.heap.size, 0, none⟩) m m) (runeB rr)) := by
              have h9 := hc5 _ rfl
              rw [Hzz.out, runeB_sane] at h9
              exact bytes_at_cells h9 Hm.out (Nat.le_refl _) (by have := runeB_length rr; rw [Hm.out] at this; unfold maxLen; omega)
            have Hy5 : Hid (BytesAt w5 (.slice (some ⟨wr.heap.size, 0, none⟩) m m) (runeB rr)) := by
              have h9 : CellsAt w5 ⟨wr.heap.size, 0, none⟩ (bytesV (runeB rr)) := Hc4.out.keep hn5 (fun _ f => f)
              exact bytes_at_cells h9 Hm.out (Nat.le_refl _) (by have := runeB_length rr; rw [Hm.out] at this; unfold maxLen; omega)
            have Hn5 := Lib.hid (Hn4.out.then hn5)
            clear hc5 hn5 u1 u2 u4 hz5
            go_wp2_with fail
            refine (equal_gen _ _ _ (runeB rr) (runeB rr) Hx5.out Hy5.out (by have := runeB_length rr; omega) true (by simp)).mono ?_
            rintro e w6 ⟨rfl, hn6⟩
            have Hn6 := Lib.hid (Hn5.out.then hn6)
            clear hn6
            go_wp2
            go_roundg (rs.length - (k + 1))
            case measure => omega
            case rel => exact ⟨k + 1, hlt, by go_num, Hn6.out, rfl⟩
          · obtain rfl : k = rs.length := by omega
            have hnl : ¬ ((rs.length : Int) < rs.length) := by omega
            have Hnw := Lib.hid (HNC.out.then hnw)
            clear hnw
            go_wp2
            go_ret
            exact ⟨rfl, Hnw.out⟩
end Go.Proofs.YtfigpbcmnlkdjaaDoor
