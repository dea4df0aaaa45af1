/-
  The walk of ReadBytes, where the source's end is io.EOF.
-/
import Derived.Test.YtfigpbcmnlkdjaaDoorCollect
namespace Go.Proofs.YtfigpbcmnlkdjaaDoor
open Go.RowKit

def RbInv (wA : World) (nb N : Nat) (fs : List (List UInt8)) (g : Nat) (v8 v24 : Value) (wr : World) : Prop :=
  ∃ (i : Nat) (cs : Array Value), i ≤ fs.length ∧ v8 = .int .i64 ((joined (fs.take i)).length : Nat) ∧ v24 = .int .i64 i ∧ wr.heap[nb]? = some (.cells cs 5 (0, 0)) ∧ cs.size = N ∧ cs.toList.take (joined (fs.take i)).length = bytesV (joined (fs.take i)) ∧ Keep (fun k => k = nb) wA wr ∧ g = fs.length - i

set_option maxRecDepth 100000 in
set_option maxHeartbeats 4000000 in
theorem readBytes_any (ev : Evs) (w : World) (B0 : Nat) (ad : Nat → Addr) (hE : Errs w B0 ad) (hev : ev true = .iface 93 (.pointer (some (ad 0)))) (b bb br : Nat) (hB : B0 ≤ b ∧ B0 ≤ bb ∧ B0 ≤ br) (st0 : Rd) (h : RdAt ev w b bb br st0) (fit : st0.Fit) (d : UInt8) (hfar : ∀ i, w.heap.size ≤ i → ev.far i)
    (he : st0.src.eof = true) (hdl : st0.src.data.length ≤ 4294967296) (hcl : st0.src.cuts.length ≤ 140737488355328) (st' : Rd) (y : List UInt8) (er : Er) (hres : st0.readBytes d = (st', y, er)) (N : Nat) (hN : y.length = N) :
    Calls Tryd.prog 27 #[.pointer (some ⟨b, 0, none⟩), .int .u8 (d.toNat : Int)] w fun e w' => ∃ nb, e = .returned (.tuple #[.slice (some ⟨nb, 0, none⟩) N N, erV (ad 0) (ad 1) er]) ∧
      BytesAt w' (.slice (some ⟨nb, 0, none⟩) N N) y ∧ w.heap.size ≤ nb ∧ RdAt ev w' b bb br st' ∧ Keep (fun i => i = b ∨ i = bb ∨ i = br) w w' := by
  obtain ⟨fs, x, hfr⟩ : ∃ fs x, Rd.frags d st0.fuel st0 = (st', fs, x, er) ∧ y = joined fs ++ x := by
    have h1 := Rd.collect_frags d st0.fuel st0
    have h2 := hres
    unfold Rd.readBytes at h2
    rw [h1] at h2
    simp only [Prod.mk.injEq] at h2
    obtain ⟨rfl, rfl, rfl⟩ := h2
    exact ⟨_, _, rfl, rfl⟩
  obtain ⟨hfr, rfl⟩ := hfr
  have hyl : N ≤ 4294967296 := by
    have h1 := (Rd.readBytes_on fit d)
    rw [hres] at h1
    have h2 := h1.on.fit.cur_le
    have h3 := h1.on.cur
    rw [h1.on.same.data] at h2
    simp only at h2 h3
    omega
  have hbl := h.lt
  have hdlt := d.toNat_lt
  have HE := Lib.hid hE
  have Hev := Lib.hid hev
  have HN := Lib.hid hN
  have Hat := Lib.hid h
  have Hfit := Lib.hid fit
  have Hfar := Lib.hid hfar
  have Hfr := Lib.hid hfr
  have Hk := Lib.hid (Rd.fuel_lt fit.ok)
  have hmk := fun w => run_make_row' (P := Tryd.prog) 23 5 (.int .u8 0) 1 Tryd.underlying23 infoByte rfl .i64 .i64 N (by omega) (by omega) w
  clear h fit hE hev hres hfar hN hfr
  go_enter Tryd.func27, Tryd.ntmps27
  go_wp2_with fail
  refine (collect_any ev w B0 ad HE.out Hev.out b bb br hB st0 Hat.out Hfit.out d Hfar.out he hdl hcl st0.fuel Hk.out st' fs x er Hfr.out N HN.out).mono ?_
  rintro e w1 ⟨v, xa, xc, rfl, hown, hx, hat1, hk1⟩
  obtain ⟨pvs, o1, o2, o3⟩ := id hown
  obtain ⟨va, vc, hv⟩ := ownsRow_slice o1
  subst hv
  have hjx : (joined fs).length + x.length = N := by rw [← HN.out, List.length_append]
  have hmk1 := hmk w1
  have hz1 := hk1.size
  obtain ⟨F, hF⟩ : ∃ F, fs.length = F := ⟨_, rfl⟩
  rw [hF] at hown o1 ⊢
  have hFN : F ≤ 9223372036854775807 := by
    obtain ⟨_, c9, e9, q1, q2, _⟩ := ownsRow_rowAt o1
    unfold maxLen at q2
    omega
  have hnA : New w1 (w1.alloc (.cells (madeCells #[.int .u8 0] N) 5)) := (Keep.refl _ _).alloc _
  have H0 : Hid (RbInv (w1.alloc (.cells (madeCells #[.int .u8 0] N) 5)) w1.heap.size N fs F (.int .i64 0) (.int .i64 0) (w1.alloc (.cells (madeCells #[.int .u8 0] N) 5))) :=
    ⟨0, madeCells #[.int .u8 0] N, Nat.zero_le _, by simp [joined], rfl, heap_alloc_new _ _, size_madeCells _ _, by simp [joined, bytesV], Keep.refl _ _, by rw [hF]; rfl⟩
  have Hrow : Hid (RowAt w1 (.slice va F vc) pvs) := ownsRow_rowAt o1
  have Ho2 := Lib.hid o2
  have Ho3 := Lib.hid o3
  have Hx := Lib.hid hx
  have Hat1 := Lib.hid hat1
  have Hk1 := Lib.hid hk1
  have HnA := Lib.hid hnA
  have HF := Lib.hid hF
  have Hjx := Lib.hid hjx
  clear hown o1 o2 o3 hx hat1 hk1 hnA hmk hF hjx
  obtain ⟨ve, hve⟩ : ∃ ve, erV (ad 0) (ad 1) er = ve := ⟨_, rfl⟩
  rw [hve]
  have Hve := Lib.hid hve
  clear hve
  go_wp2_with fail
  go_loopg [8, 11, 24] F (fun g v8 v11 v24 wr => RbInv (w1.alloc (.cells (madeCells #[.int .u8 0] N) 5)) w1.heap.size N fs g v8 v24 wr)
  case atStart => exact H0.out
  case round =>
    obtain ⟨i, cs, hi, rfl, rfl, hnb, hcs, hct, hkr, rfl⟩ := hrel
    rw [HF.out] at hi
    have hxw : BytesAt wr (.slice xa x.length xc) x := RowAt.keep (Hx.out.new HnA.out) hkr (fun k hk e => by have := RowAt.lt Hx.out k hk; omega)
    have hcl : cs.toList.length = N := by simp [hcs]
    obtain ⟨L, hL⟩ : ∃ L, (joined (fs.take i)).length = L := ⟨_, rfl⟩
    have hLN : L ≤ N := by have h1 := joined_take_le fs i; have h2 := Hjx.out; omega
    rw [hL] at hct ⊢
    obtain ⟨a1, hC, hC1, hC2⟩ := slice_from (P := Tryd.prog) 23 5 Tryd.underlying23 sizeByte (some ⟨w1.heap.size, 0, none⟩) N N L hLN (Nat.le_refl _) .i64
    have hC3 : L < N → a1 = some ⟨w1.heap.size, L, none⟩ := fun h => by rw [hC1 h]; exact congrArg some (addr0_add _ _)
    have hnbl : w1.heap.size < wr.heap.size := (Array.getElem?_eq_some_iff.1 hnb).1
    have hL0 : (0 : Int) ≤ L := by omega
    have hLi : (L : Int) ≤ N := by omega
    by_cases hlt : i < F
    · obtain ⟨p, hp⟩ : ∃ p, fs[i]? = some p := ⟨_, List.getElem?_eq_getElem (by rw [HF.out]; exact hlt)⟩
      obtain ⟨u, hu⟩ : ∃ u, pvs[i]? = some u := ⟨_, List.getElem?_eq_getElem (by rw [Ho2.out, HF.out]; exact hlt)⟩
      have hup := (Ho3.out i u p hu hp).1
      obtain ⟨ba, oa, rfl, hcell⟩ := RowAt.one Hrow.out (i := i) (by rw [Ho2.out, HF.out]; exact hlt)
      obtain ⟨au, cu, rfl, _⟩ := id hup
      rw [bytesV_length] at hup hu
      have hcw1 : w1.cell? ⟨ba, oa + i, none⟩ = some (.slice au p.length cu) := by
        rw [hcell i (by rw [Ho2.out, HF.out]; exact hlt)]
        have := List.getElem?_eq_some_iff.1 hu
        rw [this.2]
      have hba : ba < w1.heap.size := World.block_lt_of_cell? w1 _ hcw1
      have hc : wr.cell? ⟨ba, oa + i, none⟩ = some (.slice au p.length cu) := hkr.cellAt (New.cellAt HnA.out hcw1) (by show ¬ ba = w1.heap.size; omega)
      have hupr : BytesAt wr (.slice au p.length cu) p := RowAt.keep (hup.new HnA.out) hkr (fun k hk e => by have := RowAt.lt hup k hk; omega)
      have hpp := RowAt.parts hupr
      have hjs := joined_take_succ fs i p hp
      have hjl := joined_take_le fs (i + 1)
      have hLp : L + p.length ≤ N := by rw [hjs, List.length_append, hL] at hjl; have h2 := Hjx.out; omega
      have Hpl : Hid ((bytesV p).length = p.length) := bytesV_length p
      have Hmin : Hid ((bytesV p).length = Nat.min p.length (N - L)) := by show _ = _; rw [bytesV_length]; exact (Nat.min_eq_left (by omega)).symm
      have Hd : Hid (0 < (bytesV p).length → a1 = some ⟨w1.heap.size, L, none⟩) := fun h => hC3 (by rw [bytesV_length] at h; omega)
      have Hsrc : Hid (0 < (bytesV p).length → ∃ ad, au = some ad ∧ CellsAt wr.drew ad (bytesV p)) := by
        intro h
        cases au with
        | none => have := (hpp.2.2.1 rfl).1; rw [bytesV_length] at h; omega
        | some a9 => exact ⟨a9, rfl, hpp.2.2.2 a9 rfl⟩
      have Hroom : Hid (L + (bytesV p).length ≤ cs.toList.length) := by show _ ≤ _; rw [bytesV_length, hcl]; exact hLp
      have Hnb : Hid (wr.drew.heap[w1.heap.size]? = some (.cells cs.toList.toArray 5 (0, 0))) := by show wr.heap[_]? = _; rw [hnb]
      have HS := Lib.hid (fun (w' : World) (hk : Keep (fun i => i = w1.heap.size) wr.drew w') => (show w'.cell? ⟨ba, oa + i, none⟩ = some (.slice au p.length cu) from hk.cellAt hc (by show ¬ ba = w1.heap.size; omega)))
      have Hkr := Lib.hid hkr
      have Hct := Lib.hid hct
      have Hcl := Lib.hid hcl
      have Hjs := Lib.hid hjs
      have HL := Lib.hid hL
      have hlt' : (i : Int) < F := by omega
      clear hup hu hp hcell hcw1 hupr hpp hjs hjl hkr hct hcs hcl hnb hC1 hC2 hC3 hxw hL
      go_wp2_with fail
      go_region_held3 (fun w' => w'.cell? ⟨ba, oa + i, none⟩ = some (.slice au p.length cu))
        (first | exact hc | exact HS.out _ hkc)
        (first | (refine step_copy_any rfl _ _ 23 23 (by rfl) 5 Tryd.underlying23 sizeByte a1 au (N - L) (N - L) p.length cu (by rfl) (by rfl) w1.heap.size L cs.toList 5 Hnb.out (bytesV p) p.length Hpl.out Hmin.out Hd.out Hsrc.out Hroom.out (bytesV_one _) ?_; intro w3 hb3 hkc))
      rename_i hh
      have H3 : Hid (RbInv (w1.alloc (.cells (madeCells #[.int .u8 0] N) 5)) w1.heap.size N fs (fs.length - (i + 1)) (.int .i64 ((L + p.length : Nat) : Int)) (.int .i64 ((i + 1 : Nat) : Int)) w3) := by
        refine ⟨i + 1, (splice cs.toList L (bytesV p)).toArray, by rw [HF.out]; exact hlt, by rw [Hjs.out, List.length_append, HL.out], rfl, hb3.out, ?_, ?_, Hkr.out.trans (Keep.ofDrew hkc) (fun _ _ e => e), rfl⟩
        · simp only [List.size_toArray]; rw [length_splice _ _ _ Hroom.out]; exact Hcl.out
        · have h5 := take_splice (cs := cs.toList) (Y := bytesV p) (n := L) Hroom.out
          rw [bytesV_length] at h5
          rw [Hjs.out, List.length_append, HL.out, bytesV_append]
          simp only [List.toList_toArray]
          rw [h5, Hct.out]
      clear hh HS hkc hb3 hc
      go_wp2
      go_roundg (fs.length - (i + 1))
      case measure => rw [HF.out]; omega
      case rel =>
        rw [show IntKind.i64.wrap ((L : Int) + p.length) = ((L + p.length : Nat) : Int) by rw [IntWalk.i64_in _ (by omega)]; omega, show ((i : Int) + 1) = ((i + 1 : Nat) : Int) by omega]
        exact H3.out
    · obtain rfl : i = F := by omega
      have hfull : joined (fs.take i) = joined fs := by rw [← HF.out, List.take_length]
      have hLx : L + x.length = N := by rw [← hL, hfull]; exact Hjx.out
      have hpp := RowAt.parts hxw
      have Hpl : Hid ((bytesV x).length = x.length) := bytesV_length x
      have Hmin : Hid ((bytesV x).length = Nat.min x.length (N - L)) := by show _ = _; rw [bytesV_length]; exact (Nat.min_eq_left (by omega)).symm
      have Hd : Hid (0 < (bytesV x).length → a1 = some ⟨w1.heap.size, L, none⟩) := fun h => hC3 (by rw [bytesV_length] at h; omega)
      have Hsrc : Hid (0 < (bytesV x).length → ∃ ad, xa = some ad ∧ CellsAt wr ad (bytesV x)) := by
        intro h
        cases xa with
        | none => have := (hpp.2.2.1 rfl).1; rw [bytesV_length] at h; omega
        | some a9 => exact ⟨a9, rfl, hpp.2.2.2 a9 rfl⟩
      have Hroom : Hid (L + (bytesV x).length ≤ cs.toList.length) := by show _ ≤ _; rw [bytesV_length, hcl]; omega
      have Hnb : Hid (wr.heap[w1.heap.size]? = some (.cells cs.toList.toArray 5 (0, 0))) := by show wr.heap[_]? = _; rw [hnb]
      have Hct' : Hid (cs.toList.take L = bytesV (joined fs)) := by show _ = _; rw [hct, hfull]
      have Hkr := Lib.hid hkr
      have Hcl := Lib.hid hcl
      have HLx := Lib.hid hLx
      have hnl : ¬ ((i : Int) < i) := by omega
      obtain ⟨w3, hrun, hb3, hkc⟩ := run_copy_any (P := Tryd.prog) (w := wr) 23 23 3 5 Tryd.underlying23 sizeByte a1 xa (N - L) (N - L) x.length xc w1.heap.size L cs.toList 5 Hnb.out (bytesV x) Hmin.out Hd.out Hsrc.out Hroom.out (bytesV_one _)
      rw [Hpl.out] at hrun
      clear hpp hkr hct hcs hcl hnb hC1 hC2 hC3 hxw hL hfull hLx hlt
      have HB3 := Lib.hid hb3
      have Hkc := Lib.hid hkc
      clear hb3 hkc
      go_wp2
      go_ret2
      have hkA : Keep (fun i => i = w1.heap.size) w1 w3 := (((Keep.refl (fun i => i = w1.heap.size) w1).alloc _).trans Hkr.out (fun _ _ e => e)).trans Hkc.out (fun _ _ e => e)
      refine ⟨w1.heap.size, by rw [Hve.out]; rfl, ?_, hz1, Hat1.out.keep hkA ⟨by omega, by omega, by omega⟩ (fun k hk e => by omega), Hk1.out.trans hkA (fun k hk e => by omega)⟩
      refine bytes_at_cells (off := 0) ?_ HN.out (Nat.le_refl _) (by unfold maxLen; omega)
      refine cells_of_block (w := w3) HB3.out 0 _ ?_
      have h5 := take_splice (cs := cs.toList) (Y := bytesV x) (n := L) Hroom.out
      rw [bytesV_length] at h5
      rw [List.drop_zero, bytesV_length, HN.out, ← HLx.out, h5, Hct'.out, bytesV_append]
end Go.Proofs.YtfigpbcmnlkdjaaDoor
