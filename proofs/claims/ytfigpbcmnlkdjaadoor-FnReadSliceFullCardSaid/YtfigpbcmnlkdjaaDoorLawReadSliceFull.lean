/-
  The walks of ReadSlices with one delimiter, of the laws' own find and source, and of the law FnReadSliceFull.
-/
import Derived.Test.YtfigpbcmnlkdjaaDoorOuts
namespace Go.Proofs.YtfigpbcmnlkdjaaDoor
open Go.RowKit

theorem readerSize_one (a0 : Int) (h1 : -32768 ≤ a0) (h2 : a0 ≤ 32767) (w : World) (z : Nat) (hz : (max 16 a0).toNat = z) :
    Calls Tryd.prog 6 #[.int .i16 a0] w fun e w' => e = .returned (.int .i64 z) ∧ New w w' := by
  have Hz := Lib.hid hz
  clear hz
  go_enter Tryd.func6, Tryd.ntmps6
  go_wp2_with fail
  refine (start_any (.slice none 0 0) (.slice none 0 0) 0 false [] [] w (bytesAt_nil w) (intsAt_nil w) (by simp) (by simp)).mono ?_
  rintro e w1 ⟨br, rfl, hb1, hs1, hn1⟩
  have HS := Lib.hid (hs1.other (M := fun i => i = br ∨ False) (fun i _ e => e.elim .inl False.elim))
  have HN := Lib.hid hn1
  clear hs1 hn1 hb1
  go_wp2_with fail
  refine (newReader_any ⟨fun _ => .nilIface, fun _ => False⟩ br _ a0 w1 HS.out h1 h2).mono ?_
  rintro e w2 ⟨b, bb, rfl, _, _, hr, hn2⟩
  have HR := Lib.hid hr
  have HN2 := Lib.hid hn2
  clear hr hn2
  go_wp2_with fail
  refine (readerSize_any _ b bb br _ w2 HR.out).mono ?_
  rintro e w3 ⟨rfl, rfl⟩
  go_wp2
  go_ret
  have hsz : (((Rd.fresh (Src.start [] [] (decide (0 = 0)) false) (max 16 a0).toNat).size : Nat) : Int) = z := by simp only [Rd.fresh]; rw [Hz.out]
  exact ⟨congrArg (fun n => Ending.returned (.int .i64 n)) hsz, HN.out.then HN2.out⟩

def FdInv (w : World) (data : List UInt8) (d : UInt8) (g : Nat) (vi : Value) (wr : World) : Prop := ∃ k : Nat, k ≤ data.length ∧ vi = .int .i64 k ∧ d ∉ data.take k ∧ New w wr ∧ g = data.length - k

/-- The place behind the first delimiter: -1, or an index behind it. -/
def Found (data : List UInt8) (d : UInt8) (r : Int) : Prop := (r = -1 ∧ d ∉ data) ∨ ∃ k : Nat, r = k + 1 ∧ k < data.length ∧ d ∉ data.take k ∧ d ∈ data.take (k + 1)

set_option maxRecDepth 100000 in
theorem find_any (w : World) (a : Option Addr) (c n : Nat) (data : List UInt8) (hn : data.length = n) (h : BytesAt w (.slice a n c) data) (d : UInt8) (hl : n ≤ 140737488355328) :
    Calls Tryd.prog 7 #[.slice a n c, .int .i64 0, .int .u8 (d.toNat : Int)] w fun e w' => ∃ r, e = .returned (.int .i64 r) ∧ Found data d r ∧ New w w' := by
  have H0 : Hid (FdInv w data d n (.int .i64 0) w) := ⟨0, Nat.zero_le _, rfl, by simp, Keep.refl _ _, by rw [hn]; rfl⟩
  have HV := Lib.hid h
  have Hn := Lib.hid hn
  have hdl := d.toNat_lt
  clear h hn
  go_enter Tryd.func7, Tryd.ntmps7
  go_wp2_with fail
  go_loopg [7] n (fun g vi wr => FdInv w data d g vi wr)
  case atStart => exact H0.out
  case round =>
    obtain ⟨k, hk, rfl, hno, hnw, rfl⟩ := hrel
    rw [Hn.out] at hk
    by_cases hlt : k < n
    · have hkd : k < data.length := by rw [Hn.out]; exact hlt
      obtain ⟨b1, o1, rfl, hc1⟩ := bytes_one (HV.out.new hnw) hkd
      have q1 := hc1 k hkd
      obtain ⟨u, hu⟩ : ∃ u : UInt8, u = data[k] := ⟨_, rfl⟩
      rw [← hu] at q1
      have hub := u.toNat_lt
      have Hu := Lib.hid hu
      have Hno := Lib.hid hno
      have Hnw := Lib.hid hnw
      have hlt' : (k : Int) < n := by omega
      clear hc1 hu hno hnw
      by_cases hud : u = d
      · subst hud
        have hb : ((u.toNat : Int) == (u.toNat : Int)) = true := by simp
        go_wp2
        go_ret
        refine ⟨_, rfl, .inr ⟨k, rfl, hkd, Hno.out, ?_⟩, Hnw.out⟩
        rw [List.take_add_one, List.getElem?_eq_getElem hkd, ← Hu.out]; simp
      · have hb : ((u.toNat : Int) == (d.toNat : Int)) = false := by
          simp only [beq_eq_false_iff_ne, ne_eq]
          intro e
          exact hud (UInt8.toNat_inj.1 (by omega))
        have hb2 : ¬ (u.toNat : Int) = (d.toNat : Int) := by
          intro e
          exact hud (UInt8.toNat_inj.1 (by omega))
        have Hud := Lib.hid hud
        clear hud
        go_wp2
        go_roundg (data.length - (k + 1))
        case measure => rw [Hn.out]; omega
        case rel =>
          refine ⟨k + 1, by omega, by go_num, ?_, Hnw.out, rfl⟩
          rw [List.take_add_one, List.getElem?_eq_getElem hkd, ← Hu.out]
          simp only [Option.toList_some, List.mem_append, List.mem_singleton, not_or]
          exact ⟨Hno.out, fun e => Hud.out e.symm⟩
    · obtain rfl : k = n := by omega
      have hnl : ¬ ((k : Int) < k) := by omega
      have Hno := Lib.hid hno
      have Hnw := Lib.hid hnw
      clear hno hnw
      go_wp2
      go_ret
      refine ⟨_, rfl, .inl ⟨rfl, ?_⟩, Hnw.out⟩
      have h8 := Hno.out
      rw [← Hn.out, List.take_length] at h8
      exact h8

def OneInv (w w2 : World) (data : List UInt8) (size : Nat) (g : Nat) (vo vi : Value) (wr : World) : Prop :=
  (g = 1 ∧ vo = .slice none 0 0 ∧ vi = .int .i64 0 ∧ w2 = wr) ∨ (g = 0 ∧ vi = .int .i64 1 ∧ ∃ g1 c a' c', vo = .slice (some ⟨g1, 0, none⟩) 1 c ∧ 1 ≤ c ∧ wr.cell? ⟨g1, 0, none⟩ = some (.slice a' size c') ∧ wr.cell? ⟨g1, 4, none⟩ = some (.int .i64 3) ∧ BytesAt wr (.slice a' size c') (data.take size) ∧ New w wr)

set_option maxRecDepth 100000 in
set_option maxHeartbeats 2000000 in
/-- What ReadSlices gives for one delimiter that does not come within the buffer. -/
theorem readSlices_one (w : World) (B0 : Nat) (ad : Nat → Addr) (hE : Errs w B0 ad) (hB0 : B0 ≤ w.heap.size) (n : Int) (dv cv vd : Value) (E : Int) (wth : Bool) (data : List UInt8) (cuts : List Int) (d : UInt8) (size : Nat) (hdv : BytesAt w dv data) (hcv : IntsAt w cv cuts) (hvd : BytesAt w vd [d])
    (h1 : -32768 ≤ n) (h2 : n ≤ 32767) (hz : (max 16 n).toNat = size) (hl : size < data.length) (hd : d ∉ data.take size) (hdl : data.length ≤ 140737488355328) (hcl : cuts.length * 8 ≤ 140737488355328) :
    Calls Tryd.prog 8 #[.int .i16 n, .agg #[dv, cv, .int .i64 E, .bool wth], vd] w fun e w' => ∃ g c a' c', e = .returned (.slice (some ⟨g, 0, none⟩) 1 c) ∧ 1 ≤ c ∧ w'.cell? ⟨g, 0, none⟩ = some (.slice a' size c') ∧ w'.cell? ⟨g, 4, none⟩ = some (.int .i64 3) ∧ BytesAt w' (.slice a' size c') (data.take size) ∧ New w w' := by
  obtain ⟨va, vc, rfl, -⟩ := id hvd
  rw [show (bytesV [d]).length = 1 from rfl] at hvd ⊢
  obtain ⟨j0, hj, hy0, hy1, hy2⟩ := info_parts infoOutR
  have hs : 16 ≤ size ∧ size ≤ 32767 := by omega
  have hna : New w (w.alloc (.cells #[dv, cv, .int .i64 E, .bool wth] 30)) := (Keep.refl _ w).alloc _
  have HNA := Lib.hid hna
  have HE := Lib.hid hE
  have Hvd := Lib.hid hvd
  have Hd := Lib.hid hd
  have Hz := Lib.hid hz
  have Hdv := Lib.hid (hdv.new hna)
  have Hcv := Lib.hid (hcv.new hna)
  clear hE hvd hd hz hdv hcv hna
  go_enter Tryd.func8, Tryd.ntmps8
  go_wp2_with fail
  refine (start_any dv cv E wth data cuts _ Hdv.out Hcv.out (by omega) (by omega)).mono ?_
  rintro e w1 ⟨br, rfl, hb1, hs1, hn1⟩
  have HS := Lib.hid (hs1.other (M := fun i => i = br ∨ False) (fun i _ e => e.elim .inl False.elim))
  have HN1 := Lib.hid (HNA.out.then hn1)
  have hbr : w.heap.size ≤ br := by have := HNA.out.size; omega
  have hsz1 := (HNA.out.then hn1).size
  clear hs1 hn1 hb1
  go_wp2_with fail
  refine (newReader_any ⟨fun _ => .nilIface, fun _ => False⟩ br _ n w1 HS.out h1 h2).mono ?_
  rintro e w2 ⟨b, bb, rfl, hb2, hbb2, hr, hn2⟩
  rw [Hz.out] at hr
  have HR := Lib.hid hr
  have HN2 := Lib.hid (HN1.out.then hn2)
  have hy : (Rd.fresh (Src.start data cuts (decide (E = 0)) wth) size).Young data cuts size := ⟨Src.start_ok _ _ _ _, rfl, rfl, rfl, rfl, rfl, by simp [Rd.fresh, Src.start, Src.nx], Nat.zero_le _⟩
  have Hy := Lib.hid hy
  obtain ⟨bv, ov, rfl, hcd⟩ := bytes_one (Hvd.out.new (HN1.out.then hn2)) (i := 0) (by simp)
  have q0 := hcd 0 (by simp)
  simp only [List.getElem_cons_zero, Nat.add_zero] at q0
  have hdlt := d.toNat_lt
  clear hr hn2 hy hcd
  go_wp2_with fail
  go_loopg [8, 21, 10, 11, 12] 1 (fun g vo vi x10 x11 x12 wr => OneInv w w2 data size g vo vi wr)
  case atStart => exact .inl ⟨rfl, rfl, rfl, rfl⟩
  case round =>
    rcases hrel with ⟨rfl, rfl, rfl, rfl⟩ | ⟨rfl, rfl, g1, c, a', c', rfl, hc1, x0, x4, hbts, hnw⟩
    · have hE2 := HE.out.keep HN2.out (fun _ _ f => f)
      have HE2 := Lib.hid hE2
      clear hE2
      go_wp2_with fail
      refine (readSlice_full ⟨fun _ => .nilIface, fun _ => False⟩ _ B0 ad HE2.out b bb br ⟨by omega, by omega, by omega⟩ _ data cuts size HR.out Hy.out d Hd.out hs hl (by omega) (by omega)).mono ?_
      rintro e w3 ⟨rfl, hb3, hk3⟩
      have hn3 : New w w3 := HN2.out.trans hk3 (fun i hi e => by rcases e with e | e | e <;> omega)
      have HB3 := Lib.hid hb3
      have HN3 := Lib.hid hn3
      have hsz3 := hn3.size
      have Htl : Hid ((data.take size).length = size) := by show _ = _; simp; omega
      clear hb3 hk3 hn3
      go_wp2_with fail
      refine (copied_any _ (data.take size) _ HB3.out (by rw [Htl.out]; omega)).mono ?_
      rintro e w4 ⟨a4, c4, rfl, ho4, hn4⟩
      rw [Htl.out] at ho4 ⊢
      have hr4 : BytesAt w4 (.slice a4 size c4) (data.take size) := ownsRow_rowAt ho4
      have HR4 := Lib.hid hr4
      have HN4 := Lib.hid (HN3.out.then hn4)
      have HE4 := Lib.hid (HE.out.keep (HN3.out.then hn4) (fun _ _ f => f))
      have hsz4 := (HN3.out.then hn4).size
      clear ho4 hn4 hr4
      go_wp2_with fail
      refine (number_full _ B0 ad HE4.out).mono ?_
      rintro e w5 ⟨rfl, rfl⟩
      have HE0 : Hid (∀ ad', some (⟨w4.heap.size, 0, none⟩ : Addr) = some ad' → CellsAt (w4.alloc (.cells (outZ (.slice a4 size c4) 3) 33)) ad' (outZ (.slice a4 size c4) 3).toList) := by
        intro ad' e' j u hu
        cases e'
        rw [addr0_add]
        exact (cell_new w4 (outZ (.slice a4 size c4) 3) 33 j).trans (by simpa using hu)
      have HE1 : Hid (∀ u ∈ (outZ (.slice a4 size c4) 3).toList, u.oneCell' = true) := by
        intro u hu
        simp [outZ] at hu
        rcases hu with rfl | rfl | rfl | rfl | rfl <;> rfl
      unfold outZ at HE0
      go_wp2_with (at_builtin; refine wpList_append_nil0 rfl _ _ 27 rfl w.heap.size 33 j0 (.agg (outZ (.slice none 0 0) 0)) 5 48 Tryd.underlying27 hj hy0 hy1 hy2 (by rfl) (by decide) rfl (some ⟨w4.heap.size, 0, none⟩) 1 1 (outZ (.slice a4 size c4) 3).toList (by rfl) (by intro e; cases e) (by rfl) HE0.out HE1.out (by unfold maxLen; omega) (by omega) (by simp; omega) ?_)
      intro a7 c7 w7 ho7 hn7 hb7
      have hnA : New w4 (w4.alloc (.cells (outZ (.slice a4 size c4) 3) 33)) := (Keep.refl _ _).alloc _
      have hn47 : New w4 w7 := hnA.then hn7
      have H7 : Hid (OneInv w w2 data size 0 (.slice a7 1 c7) (.int .i64 1) w7) := by
        right
        refine ⟨rfl, rfl, ?_⟩
        rcases ho7.2 with ⟨e, h0⟩ | ⟨gg, cap, cur, e, hb, hg, e1, e2, e3, e4⟩
        · simp at h0
        · simp only [Value.slice.injEq] at e
          obtain ⟨rfl, -, rfl⟩ := e
          have hcell : ∀ j u, (outZ (.slice a4 size c4) 3).toList[j]? = some u → w7.cell? ⟨gg, j, none⟩ = some u := fun j u hu => by
            have := World.ownsRow.cells (v := .slice (some ⟨gg, 0, none⟩) 1 c7) ho7 rfl j u hu
            rw [addr0_add] at this
            exact this
          exact ⟨gg, c7, a4, c4, rfl, e1, hcell 0 _ rfl, hcell 4 _ rfl, HR4.out.new hn47, HN4.out.then hn47⟩
      clear ho7 hn7 hb7 hnA hn47
      go_wp2
      go_roundg 0
      case measure => omega
      case rel => exact H7.out
    · have X0 := Lib.hid x0
      have X4 := Lib.hid x4
      have XB := Lib.hid hbts
      have XN := Lib.hid hnw
      clear x0 x4 hbts hnw q0
      go_wp2
      go_ret
      exact ⟨g1, c, a', c', rfl, hc1, X0.out, X4.out, XB.out, XN.out⟩

set_option maxRecDepth 100000 in
set_option maxHeartbeats 4000000 in
theorem walkFnReadSliceFull (w : World) (B0 : Nat) (ad : Nat → Addr) (hE : Errs w B0 ad) (hB0 : B0 ≤ w.heap.size) (n E u : Int) (wth : Bool) (v1 v2 : Value) (data : List UInt8) (cuts : List Int) (h1 : -32768 ≤ n) (h2 : n ≤ 32767) (hu : 0 ≤ u ∧ u ≤ 255)
    (hv1 : BytesAt w v1 data) (hv2 : IntsAt w v2 cuts) (hall : data.length ≤ 140737488355328 ∧ cuts.length * 8 ≤ 140737488355328) :
    Calls Tryd.prog 3 #[.int .i16 n, v1, v2, .int .i64 E, .bool wth, .int .u8 u] w fun e w' => e = .returned (.bool true) ∧ New w w' := by
  obtain ⟨d, rfl⟩ : ∃ d : UInt8, u = (d.toNat : Int) := ⟨UInt8.ofNat u.toNat, by rw [UInt8.toNat_ofNat']; omega⟩
  clear hu
  have hdlt := d.toNat_lt
  obtain ⟨a1, c1, rfl, -⟩ := id hv1
  obtain ⟨a2, c2, rfl, -⟩ := id hv2
  rw [bytesV_length] at hv1 ⊢
  rw [intsV_length] at hv2 ⊢
  obtain ⟨L, hL⟩ : ∃ L, data.length = L := ⟨_, rfl⟩
  obtain ⟨z, hz⟩ : ∃ z, (max 16 n).toNat = z := ⟨_, rfl⟩
  have hz1 : 16 ≤ z ∧ z ≤ 32767 := by omega
  rw [hL] at hv1 ⊢
  have HV1 := Lib.hid hv1
  have HV2 := Lib.hid hv2
  have HE := Lib.hid hE
  have HL := Lib.hid hL
  have Hz := Lib.hid hz
  have hLb : L ≤ 140737488355328 := by omega
  have hcb : cuts.length * 8 ≤ 140737488355328 := by omega
  clear hv1 hv2 hE hL hz
  go_enter Tryd.func3, Tryd.ntmps3
  go_wp2_with fail
  refine (readerSize_one n h1 h2 _ z Hz.out).mono ?_
  rintro e wA ⟨rfl, hnA⟩
  have HnA := Lib.hid hnA
  clear hnA
  go_wp2_with fail
  refine (find_any _ a1 c1 L data HL.out (HV1.out.new HnA.out) d (by omega)).mono ?_
  rintro e wB ⟨r, rfl, hfd, hnB⟩
  have HnB := Lib.hid (HnA.out.then hnB)
  have Hfd := Lib.hid hfd
  have hrb : -1 ≤ r ∧ r ≤ 140737488355329 := by
    rcases hfd with ⟨rfl, _⟩ | ⟨k, rfl, hk, _⟩
    · omega
    · have := HL.out; omega
  clear hnB hfd
  by_cases hLz : L ≤ z
  · have hLz' : (L : Int) ≤ z := by omega
    go_wp2
    go_ret
    exact ⟨rfl, HnB.out⟩
  by_cases hr0 : 0 ≤ r ∧ r ≤ (z : Int)
  · obtain ⟨hr1, hr2⟩ := hr0
    have hLz' : ¬ (L : Int) ≤ z := by omega
    go_wp2
    go_ret
    exact ⟨rfl, HnB.out⟩
  have hdz : d ∉ data.take z := by
    intro hm
    rcases Hfd.out with ⟨rfl, hno⟩ | ⟨k, rfl, hk, hno, _⟩
    · exact hno (List.mem_of_mem_take hm)
    · have hkz : z ≤ k := by omega
      exact hno (List.mem_of_mem_take (i := z) (by rw [List.take_take, Nat.min_eq_left hkz]; exact hm))
  have Hdz := Lib.hid hdz
  have hLz' : ¬ (L : Int) ≤ z := by omega
  have hcase : r < 0 ∨ ((0 ≤ r) ∧ ¬ r ≤ (z : Int)) := by omega
  have Hcase := Lib.hid hcase
  have hsl := slice_upto (P := Tryd.prog) 23 5 Tryd.underlying23 sizeByte a1 L c1 z (by have := (RowAt.parts HV1.out).2.1; rw [bytesV_length, HL.out] at this; omega) .i64
  have Hsl := Lib.hid hsl
  have hzL : z < L := by omega
  clear hdz hcase hr0 Hfd hsl hLz
  rcases Hcase.out with hr | ⟨hr, hr'⟩
  all_goals
    clear Hcase
    go_wp2_with fail
    refine (source_any _ _ _ E wth data cuts (HV1.out.new HnB.out) (HV2.out.new HnB.out) (by rw [HL.out]; omega) (by omega)).mono ?_
    rintro e wC ⟨dv, cv, rfl, hdv, hcv, hnC⟩
    have hnCa : New wC (wC.alloc (.cells #[.int .u8 (d.toNat : Int)] 5)) := (Keep.refl _ _).alloc _
    have HnC := Lib.hid ((HnB.out.then hnC).then hnCa)
    have Hdv := Lib.hid (hdv.new hnCa)
    have Hcv := Lib.hid (hcv.new hnCa)
    have HEC := Lib.hid (HE.out.keep ((HnB.out.then hnC).then hnCa) (fun _ _ f => f))
    have hbC : B0 ≤ (wC.alloc (.cells #[.int .u8 (d.toNat : Int)] 5)).heap.size := by have := ((HnB.out.then hnC).then hnCa).size; omega
    have HbC := Lib.hid hbC
    have HB1 : Hid (BytesAt (wC.alloc (.cells #[.int .u8 (d.toNat : Int)] 5)) (.slice (some ⟨wC.heap.size, 0, none⟩) 1 1) [d]) := by
      refine ⟨some ⟨wC.heap.size, 0, none⟩, 1, rfl, by simp [bytesV], by unfold maxLen; omega, (fun e => by cases e), fun ad e => ?_⟩
      cases e
      intro j u hu
      rw [addr0_add]
      exact (cell_new wC #[.int .u8 (d.toNat : Int)] 5 j).trans (by simpa [bytesV, byteV] using hu)
    clear hdv hcv hnC hnCa hbC
    go_wp2_with fail
    refine (readSlices_one _ B0 ad HEC.out HbC.out n dv cv _ E wth data cuts d z Hdv.out Hcv.out HB1.out h1 h2 Hz.out (by rw [HL.out]; exact hzL) Hdz.out (by rw [HL.out]; exact hLb) hcb).mono ?_
    rintro e wD ⟨g, c, a', c', rfl, hc1, x0, x4, hbt, hnD⟩
    have HnD := Lib.hid (HnC.out.then hnD)
    have hsl := Hsl.out
    have Hbt : Hid (BytesAt wD.drew (.slice a' z c') (data.take z)) := hbt
    have Hb2 : Hid (BytesAt wD.drew (.slice a1 z c1) (data.take z)) := by
      have h8 := HV1.out.new (HnC.out.then hnD)
      have h9 := RowAt.upto h8 (k := z) (by rw [bytesV_length, HL.out]; omega)
      rw [show (bytesV data).take z = bytesV (data.take z) from by simp [bytesV]] at h9
      exact h9
    have Hlz : Hid ((data.take z).length ≤ 9223372036854775807) := by show _ ≤ _; simp; omega
    have HS := Lib.hid (fun (w' : World) (h : New wD.drew w') => (show w'.cell? ⟨g, 0, none⟩ = some (.slice a' z c') ∧ w'.cell? ⟨g, 4, none⟩ = some (.int .i64 3) from ⟨New.cellAt h x0, New.cellAt h x4⟩))
    have hz0 : (0 : Int) < z := by omega
    clear hbt hnD
    go_wp2_with fail
    go_region_held3 (fun w' => w'.cell? ⟨g, 0, none⟩ = some (.slice a' z c') ∧ w'.cell? ⟨g, 4, none⟩ = some (.int .i64 3))
      (first | exact ⟨x0, x4⟩ | exact HS.out _ hn1)
      (first | (go_at_call 10; (with_reducible refine (equal_gen _ _ _ (data.take z) (data.take z) Hbt.out Hb2.out Hlz.out true (by simp)).mono ?_); rintro e w1 ⟨rfl, hn1⟩))
    rename_i hh
    have HN : Hid (New w w1) := (HnD.out.drew).then hn1
    clear hh HS hn1
    go_wp2
    go_ret
    exact ⟨by first | rfl | (show Ending.returned (.bool (decide (0 < z))) = _; rw [decide_eq_true (by omega)]), HN.out⟩
end Go.Proofs.YtfigpbcmnlkdjaaDoor
