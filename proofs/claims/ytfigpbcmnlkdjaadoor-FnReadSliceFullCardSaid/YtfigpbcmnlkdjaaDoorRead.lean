/-
  The walk of the source's Read, where its end is not come to.
-/
import Derived.Test.YtfigpbcmnlkdjaaDoorRdAt
namespace Go.Proofs.YtfigpbcmnlkdjaaDoor
open Go.RowKit

theorem adv_next (s : Src) (k : Nat) (h : s.left - k = 0) : s.adv k = ({ s with pos := s.pos + k, left := s.left - k } : Src).nx := by unfold Src.adv; simp only [h, if_true]
theorem adv_same (s : Src) (k : Nat) (h : ¬ s.left - k = 0) : s.adv k = { s with pos := s.pos + k, left := s.left - k } := by unfold Src.adv; simp only [h, if_false]

set_option maxRecDepth 100000 in
set_option maxHeartbeats 2000000 in
theorem read_mid (w : World) (br bb off m cap k : Nat) (s : Src) (N : Nat → Prop) (hN : N br) (hNb : N bb) (hne : bb ≠ br) (h : SrcAt w br s N) (ok : s.Ok) (cs : List Value) (hbf : w.heap[bb]? = some (.cells cs.toArray 5 (0, 0)))
    (hfit : off + m ≤ cs.length) (hk : min m s.left = k) (hk0 : 0 < k) (hend : s.pos + k < s.data.length) (hd : s.data.length ≤ 140737488355328) (hc : s.cuts.length ≤ 140737488355328) (hmb : m ≤ 32767) :
    Calls Tryd.prog 58 #[.pointer (some ⟨br, 0, none⟩), .slice (some ⟨bb, off, none⟩) m cap] w fun e w' =>
      e = .returned (.tuple #[.int .i64 k, .nilIface]) ∧ SrcAt w' br (s.adv k) N ∧ w'.heap[bb]? = some (.cells (splice cs off (bytesV ((s.data.drop s.pos).take k))).toArray 5 (0, 0)) ∧ Keep (fun i => i = br ∨ i = bb) w w' := by
  obtain ⟨dv, cv, E, h0, hE, hdv, hcv, hnd, hnc⟩ := h
  obtain ⟨a1, n1, rfl, d1, d2, d3, d4⟩ := id hdv
  rw [bytesV_length] at h0 hdv hnd d1
  have okl := ok.left
  have okp := ok.pos
  have okq := ok.piece
  have hkl : k ≤ s.left := by omega
  have hkm : k ≤ m := by omega
  have c0 : w.cell? ⟨br, 0, none⟩ = some (.slice a1 s.data.length n1) := cell_of h0 rfl
  have c4 : w.cell? ⟨br, 4, none⟩ = some (.int .i64 s.pos) := cell_of h0 rfl
  have c6 : w.cell? ⟨br, 6, none⟩ = some (.int .i64 s.left) := cell_of h0 rfl
  obtain ⟨a2, hC, hC1, hC2⟩ := slice_cut (P := Tryd.prog) 23 5 Tryd.underlying23 sizeByte a1 s.data.length n1 s.pos (s.pos + s.left) (by omega) (by omega) .i64 .i64
  have hrow := RowAt.cut hdv (lo := s.pos) (hi := s.pos + s.left) (by omega) (by rw [bytesV_length]; omega) hC1 hC2
  rw [Nat.add_sub_cancel_left] at hC hrow
  rw [show ((s.pos + s.left : Nat) : Int) = (s.pos : Int) + s.left by omega] at hC
  have hrk := RowAt.upto hrow (k := k) (by simp [bytesV_length]; omega)
  have hx : (((bytesV s.data).drop s.pos).take s.left).take k = bytesV ((s.data.drop s.pos).take k) := by
    rw [List.take_take, Nat.min_eq_left hkl]; simp [bytesV, List.map_take, List.map_drop]
  rw [hx] at hrk
  have hlk : (bytesV ((s.data.drop s.pos).take k)).length = k := by rw [bytesV_length]; simp; omega
  have Hsrc : Hid (0 < (bytesV ((s.data.drop s.pos).take k)).length → ∃ ad, a2 = some ad ∧ CellsAt w.drew ad (bytesV ((s.data.drop s.pos).take k))) := by
    intro _
    obtain ⟨p1, p2, p3, p4⟩ := RowAt.parts hrk
    cases ha : a2 with
    | none => have := (p3 ha).1; omega
    | some ad => exact ⟨ad, rfl, p4 ad ha⟩
  have Hlk := Lib.hid hlk
  have Hmin : Hid ((bytesV ((s.data.drop s.pos).take k)).length = Nat.min s.left m) := by show _ = _; rw [hlk, ← hk]; exact Nat.min_comm _ _
  have Hroom : Hid (off + (bytesV ((s.data.drop s.pos).take k)).length ≤ cs.length) := by show _ ≤ _; rw [hlk]; omega
  have HS := Lib.hid (fun (w' : World) (hk : Keep (fun i => i = bb) w.drew w') =>
    (show w'.cell? ⟨br, 0, none⟩ = some (.slice a1 s.data.length n1) ∧ w'.cell? ⟨br, 4, none⟩ = some (.int .i64 s.pos) ∧ w'.cell? ⟨br, 6, none⟩ = some (.int .i64 s.left) from ⟨hk.cellAt c0 (fun e => hne e.symm), hk.cellAt c4 (fun e => hne e.symm), hk.cellAt c6 (fun e => hne e.symm)⟩))
  have H0 := Lib.hid h0
  have HE := Lib.hid hE
  have Hdv := Lib.hid hdv
  have Hcv := Lib.hid hcv
  have Hbf : Hid (w.drew.heap[bb]? = some (.cells cs.toArray 5 (0, 0))) := hbf
  have Hnd := Lib.hid hnd
  have Hnc := Lib.hid hnc
  have hm0 : ¬ (m : Int) = 0 := by omega
  have hmb0 : ((m : Int) == 0) = false := by simp; omega
  have hpl : ¬ (s.pos : Int) = s.data.length := by omega
  have hplb : ((s.pos : Int) == (s.data.length : Int)) = false := by simp; omega
  have hwrap : IntKind.i64.wrap ((s.pos : Int) + s.left) = (s.pos : Int) + s.left := IntWalk.i64_in _ (by omega)
  clear h0 hE hdv hcv hbf hrow hrk hx hlk d2 d3 d4 hC1 hC2 hnd hnc
  go_enter Tryd.func58, Tryd.ntmps58
  go_wp2
  go_region
  go_wp2_with fail
  go_region_held3 (fun w' => w'.cell? ⟨br, 0, none⟩ = some (.slice a1 s.data.length n1) ∧ w'.cell? ⟨br, 4, none⟩ = some (.int .i64 s.pos) ∧ w'.cell? ⟨br, 6, none⟩ = some (.int .i64 s.left))
    (first | exact ⟨c0, c4, c6⟩ | exact HS.out _ (Keep.ofDrew hkc))
    (first | (refine step_copy_any rfl _ _ 23 23 (by rfl) 5 Tryd.underlying23 sizeByte (some ⟨bb, off, none⟩) a2 m cap s.left (n1 - s.pos) (by rfl) (by rfl) bb off cs 5 Hbf.out (bytesV ((s.data.drop s.pos).take k)) k Hlk.out Hmin.out (fun _ => rfl) Hsrc.out Hroom.out (bytesV_one _) ?_; intro w3 hb3 hkc))
  rename_i hh
  have hkw : Keep (fun i => i = bb) w w3 := Keep.ofDrew (Keep.ofDrew hkc)
  have hbr : br < w.heap.size := (Array.getElem?_eq_some_iff.1 H0.out).1
  have h03 : w3.heap[br]? = _ := (hkw.block br hbr (fun e => hne e.symm)).trans H0.out
  have q4 : w3.cell? ⟨br, 4, none⟩ = some (.int .i64 s.pos) := cell_of h03 rfl
  have q6 : w3.cell? ⟨br, 6, none⟩ = some (.int .i64 s.left) := cell_of h03 rfl
  have f4 : w3.frozen? ⟨br, 4, none⟩ = false := frozen_of h03
  have f6 : w3.frozen? ⟨br, 6, none⟩ = false := frozen_of h03
  have hk4 : Keep (fun i => i = br) w3 ((w3.setCell ⟨br, 4, none⟩ (.int .i64 ((s.pos : Int) + k))).setCell ⟨br, 6, none⟩ (.int .i64 ((s.left : Int) - k))) := ((Keep.refl _ w3).set1 4 _).set1 6 _
  have hs4 : SrcAt ((w3.setCell ⟨br, 4, none⟩ (.int .i64 ((s.pos : Int) + k))).setCell ⟨br, 6, none⟩ (.int .i64 ((s.left : Int) - k))) br { s with pos := s.pos + k, left := s.left - k } N :=
    SrcAt.renew hk4 ((heap_set (heap_set h03 _) _).trans (by simp; omega)) HE.out (RowAt.keep Hdv.out hkw (fun i hi e => Hnd.out i hi (e ▸ hNb))) (RowAt.keep Hcv.out hkw (fun i hi e => Hnc.out i hi (e ▸ hNb))) Hnd.out Hnc.out hN rfl rfl rfl
  have HS4 := Lib.hid hs4
  have HK4 : Hid (Keep (fun i => i = br ∨ i = bb) w ((w3.setCell ⟨br, 4, none⟩ (.int .i64 ((s.pos : Int) + k))).setCell ⟨br, 6, none⟩ (.int .i64 ((s.left : Int) - k)))) := (hkw.mono (fun i _ e => .inr e)).trans hk4 (fun i _ e => .inl e)
  have HB4 : Hid (((w3.setCell ⟨br, 4, none⟩ (.int .i64 ((s.pos : Int) + k))).setCell ⟨br, 6, none⟩ (.int .i64 ((s.left : Int) - k))).heap[bb]? = some (.cells (splice cs off (bytesV ((s.data.drop s.pos).take k))).toArray 5 (0, 0))) := by
    show _ = _
    rw [Below.heap_setCell _ _ _ _ hne, Below.heap_setCell _ _ _ _ hne]; exact hb3.out
  have r4 : ((w3.setCell ⟨br, 4, none⟩ (.int .i64 ((s.pos : Int) + k))).setCell ⟨br, 6, none⟩ (.int .i64 ((s.left : Int) - k))).cell? ⟨br, 4, none⟩ = some (.int .i64 ((s.pos : Int) + k)) := cell_of ((heap_set (heap_set h03 _) _)) (by simp)
  have r0 : ((w3.setCell ⟨br, 4, none⟩ (.int .i64 ((s.pos : Int) + k))).setCell ⟨br, 6, none⟩ (.int .i64 ((s.left : Int) - k))).cell? ⟨br, 0, none⟩ = some (.slice a1 s.data.length n1) := cell_of ((heap_set (heap_set h03 _) _)) (by simp)
  have hpk : ¬ (s.pos : Int) + k = s.data.length := by omega
  have hpkb : ((s.pos : Int) + k == (s.data.length : Int)) = false := by simp; omega
  by_cases hz : s.left - k = 0
  · have hz1 : (s.left : Int) - k = 0 := by omega
    have hz2 : ((s.left : Int) - k == 0) = true := by simp; omega
    have Had := Lib.hid (adv_next s k hz)
    rw [hz1] at hs4 HS4 HK4 HB4 r4 r0
    have Hn := Lib.hid (next_any br ((w3.setCell ⟨br, 4, none⟩ (.int .i64 ((s.pos : Int) + k))).setCell ⟨br, 6, none⟩ (.int .i64 0)) { s with pos := s.pos + k, left := s.left - k } N hN hs4 (by simp only; omega) (by simp only; omega) hd hc)
    generalize hW4 : (w3.setCell ⟨br, 4, none⟩ (.int .i64 ((s.pos : Int) + k))).setCell ⟨br, 6, none⟩ (.int .i64 0) = W4 at HS4 HK4 HB4 r4 r0 Hn
    have HW4 := Lib.hid hW4
    clear hh HS hkc hkw h03 hk4 hs4 hwrap hC c0 c4 c6 hb3 hW4
    go_wp2_with fail
    rw [HW4.out]
    refine Hn.out.mono ?_
    rintro e w5 ⟨rfl, hs5, hk5⟩
    have x5 := hs5
    obtain ⟨dv5, cv5, E5, g0, g1, g2, g3, g4, g5⟩ := x5
    obtain ⟨a5, n5, rfl, -⟩ := id g2
    rw [bytesV_length] at g0
    have y4 : w5.cell? ⟨br, 4, none⟩ = some (.int .i64 ((s.pos : Int) + k)) := (cell_of g0 rfl).trans (by simp [Src.nx])
    have y0 : w5.cell? ⟨br, 0, none⟩ = some (.slice a5 s.data.length n5) := cell_of g0 rfl
    have HS5 := Lib.hid hs5
    have HK5 : Hid (Keep (fun i => i = br ∨ i = bb) w w5) := HK4.out.trans hk5 (fun i _ e => .inl e)
    have HB5 : Hid (w5.heap[bb]? = some (.cells (splice cs off (bytesV ((s.data.drop s.pos).take k))).toArray 5 (0, 0))) := (hk5.block bb (Array.getElem?_eq_some_iff.1 HB4.out).1 hne).trans HB4.out
    clear g0 g1 g2 g3 g4 g5 hs5 hk5 r4 r0
    go_wp2
    go_region
    go_wp2
    go_ret2
    rw [Had.out]
    exact ⟨rfl, HS5.out.keep ((Keep.refl (fun _ => False) w5).drew) (fun f => f) (fun _ _ f => f.elim), HB5.out, HK5.out.drew⟩
  · have hz1 : ¬ (s.left : Int) - k = 0 := by omega
    have hz2 : ((s.left : Int) - k == 0) = false := by simp; omega
    have Had := Lib.hid (adv_same s k hz)
    generalize hW4 : (w3.setCell ⟨br, 4, none⟩ (.int .i64 ((s.pos : Int) + k))).setCell ⟨br, 6, none⟩ (.int .i64 ((s.left : Int) - k)) = W4 at HS4 HK4 HB4 r4 r0
    have HW4 := Lib.hid hW4
    clear hh HS hkc hkw h03 hk4 hs4 hwrap hC c0 c4 c6 hb3 hW4
    go_wp2
    rw [HW4.out]
    go_region
    go_wp2
    go_ret2
    rw [Had.out]
    exact ⟨rfl, HS4.out.keep ((Keep.refl (fun _ => False) W4).drew) (fun f => f) (fun _ _ f => f.elim), HB4.out, HK4.out.drew⟩
end Go.Proofs.YtfigpbcmnlkdjaaDoor
