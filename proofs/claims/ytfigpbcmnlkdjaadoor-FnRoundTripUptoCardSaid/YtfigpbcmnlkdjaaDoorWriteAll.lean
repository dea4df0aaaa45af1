/-
  The walk of the thin package's WriteAll.
-/
import Derived.Test.YtfigpbcmnlkdjaaDoorWrite2
import Derived.Test.YtfigpbcmnlkdjaaDoorGlob
import Derived.Test.YtfigpbcmnlkdjaaDoorPureW2
namespace Go.Proofs.YtfigpbcmnlkdjaaDoor
open Go.RowKit

/-- A slice of slices of bytes. -/
def PartsAt (w : World) (v : Value) (ps : List (List UInt8)) : Prop :=
  ∃ pvs : List Value, RowAt w v pvs ∧ pvs.length = ps.length ∧ ∀ (j : Nat) (u : Value) (p : List UInt8), pvs[j]? = some u → ps[j]? = some p → BytesAt w u p

theorem PartsAt.new {w w' : World} {v : Value} {ps : List (List UInt8)} (h : PartsAt w v ps) (k : New w w') : PartsAt w' v ps := by
  obtain ⟨pvs, h1, h2, h3⟩ := h
  exact ⟨pvs, h1.new k, h2, fun j u p hu hp => (h3 j u p hu hp).new k⟩

theorem errW_true (ea : Addr) : errW ea true = .iface 93 (.pointer (some ea)) := rfl
theorem errW_false (ea : Addr) : errW ea false = .nilIface := rfl

/-- What holds at the head of each round of WriteAll. -/
def AInv (ea : Addr) (w : World) (b bb bs B : Nat) (room : Int) (size : Nat) (ps : List (List UInt8)) (g : Nat) (i : Value) (wr : World) : Prop :=
  ∃ (k : Nat) (s : Wr) (gk : Value), k ≤ ps.length ∧ i = .int .i64 k ∧ WrAt ea wr b bb bs gk s B ∧ New w wr ∧ (Wr.fresh room size).Step (joined (ps.take k)) s ∧ g = ps.length - k

set_option maxRecDepth 100000 in
set_option maxHeartbeats 1000000 in
theorem writeAll_any (w : World) (B0 : Nat) (ad : Nat → Addr) (hE : Errs w B0 ad) (hB0 : B0 ≤ w.heap.size) (n room : Int) (v : Value) (ps : List (List UInt8)) (h1 : -32768 ≤ n) (h2 : n ≤ 32767)
    (r1 : -9223372036854775807 ≤ room + 1) (r2 : room ≤ 9223372036854775807) (hv : PartsAt w v ps) (hall : (joined ps).length ≤ 140737488355328) (y : List UInt8) (hy : y = (joined ps).take room.toNat) (num : Int) (hnum : num = if room.toNat < (joined ps).length then 9 else 0) :
    Calls Tryd.prog 14 #[.int .i16 n, .agg #[.int .i64 room], v] w fun e w' => ∃ a' c', e = .returned (.tuple #[.slice a' y.length c', .int .i64 num]) ∧
      w'.ownsRow w.heap.size 5 1 (.slice a' y.length c') y.length (bytesV y) ∧ New w w' := by
  obtain ⟨pvs, hrow, hpl, hps⟩ := hv
  obtain ⟨a, c, rfl, p1, p2, p3, p4⟩ := id hrow
  rw [hpl] at p1 hrow ⊢
  have Hy := Lib.hid hy
  have Hnm := Lib.hid hnum
  clear hy hnum
  have HR := Lib.hid hrow
  have HPs := Lib.hid hps
  have Hpl := Lib.hid hpl
  have HE := Lib.hid hE
  have hpc : ps.length ≤ 140737488355328 ∨ True := .inr trivial
  have hm : ps.length ≤ 9223372036854775807 := by unfold maxLen at p2; omega
  clear hrow hps hpl hE p2 p3 p4 hpc
  have hk2 : New w ((w.alloc (.cells #[.int .i64 room] 45)).alloc (.cells #[.int .i64 room, .slice none 0 0] 64)) := ((Keep.refl _ _).alloc _).alloc _
  have hs2 : SnkAt ((w.alloc (.cells #[.int .i64 room] 45)).alloc (.cells #[.int .i64 room, .slice none 0 0] 64)) (w.heap.size + 1) (.slice none 0 0) ⟨room, []⟩ w.heap.size := by
    refine ⟨?_, World.ownsRow_nil _ _ _ _, (fun e => by cases e), Nat.le_succ _⟩
    have := heap_alloc_new (w.alloc (.cells #[.int .i64 room] 45)) (.cells #[.int .i64 room, .slice none 0 0] 64)
    simpa using this
  have HK2 := Lib.hid hk2
  have HS2 := Lib.hid hs2
  clear hk2 hs2
  go_enter Tryd.func14, Tryd.ntmps14
  go_wp2_with fail
  refine (newWriter_any (ad 7) _ _ _ _ n _ HS2.out h1 h2).mono ?_
  rintro e w3 ⟨b, bb, rfl, hb3, hbb3, hat3, hn3⟩
  have hk3 := HK2.out.then hn3
  have hwb := wsize_bounds n h2
  have H0 : Hid (AInv (ad 7) w b bb (w.heap.size + 1) w.heap.size room (wsize n) ps ps.length (.int .i64 0) w3) :=
    ⟨0, Wr.fresh room (wsize n), .slice none 0 0, Nat.zero_le _, rfl, hat3, hk3, Wr.Step.refl ⟨hwb, Nat.zero_le _⟩ rfl, rfl⟩
  have Hbb : Hid (w.heap.size ≤ b ∧ w.heap.size ≤ bb) := by simp at hb3 hbb3; exact ⟨by omega, by omega⟩
  clear hat3 hn3 hk3 hb3 hbb3 HS2 HK2
  go_wp2_with fail
  go_loopg [24, 11] ps.length (fun g i p wr => AInv (ad 7) w b bb (w.heap.size + 1) w.heap.size room (wsize n) ps g i wr)
  case atStart => exact H0.out
  case round =>
    obtain ⟨k, s, gk, hk, rfl, hat, hnw, hst, rfl⟩ := hrel
    by_cases hlt : k < ps.length
    · obtain ⟨p, hp⟩ : ∃ p, ps[k]? = some p := ⟨_, List.getElem?_eq_getElem hlt⟩
      obtain ⟨u, hu⟩ : ∃ u, pvs[k]? = some u := ⟨_, List.getElem?_eq_getElem (by rw [Hpl.out]; exact hlt)⟩
      have hup := HPs.out k u p hu hp
      obtain ⟨ba, oa, rfl, hcell⟩ := RowAt.one HR.out (i := k) (by rw [Hpl.out]; exact hlt)
      obtain ⟨au, cu, rfl, _⟩ := id hup
      rw [bytesV_length] at hup hu
      have hc : wr.cell? ⟨ba, oa + k, none⟩ = some (.slice au p.length cu) := hnw.cellAt (by
        rw [hcell k (by rw [Hpl.out]; exact hlt)]
        have := List.getElem?_eq_some_iff.1 hu
        rw [this.2])
      have hjs := joined_take_succ ps k p hp
      have hjl := joined_take_le ps (k + 1)
      have hjl2 : (joined (ps.take k)).length + p.length ≤ 140737488355328 := by rw [hjs] at hjl; simp at hjl; omega
      have hfit : s.Fits := (Wr.fresh_fits room (wsize n) hwb r1 r2).step hst (by simp [Wr.fresh]; omega)
      have hlen := hst.len
      simp only [Wr.fresh, List.length_nil] at hlen
      have hgl : 7 < w.heap.size := by have := HE.out.e7.lt; omega
      have Hlen : Hid (s.snk.got.length + s.buf.length + p.length ≤ 140737488355328) := by show _ ≤ _; omega
      have hpl : p.length ≤ 140737488355328 := by omega
      have Hup := Lib.hid hup
      have Hat := Lib.hid hat
      have Hst := Lib.hid hst
      have Hjs := Lib.hid hjs
      have Hnw := Lib.hid hnw
      have hlt' : (k : Int) < ps.length := by omega
      clear hup hat hst hjs hjl hjl2 hlen hcell hu hp hnw
      go_wp2_with fail
      refine (copied_any _ p _ (Hup.out.new Hnw.out) hpl).mono ?_
      rintro e w4 ⟨a4, c4, rfl, ho4, hn4⟩
      have hat4 := Hat.out.new hn4
      have hk4 := Hnw.out.then hn4
      have Hp4 : Hid (BytesAt w4 (.slice a4 p.length c4) p) := ownsRow_rowAt ho4
      have Hpb4 : Hid (∀ i, Value.inBlock (.slice a4 p.length c4) i → ¬ wrSet b bb (w.heap.size + 1) gk i) := fun i hi e => by
        have h5 := (ho4.lt i (inBlock_own hi)).1
        have h6 := (Hat.out.blocks i e).2
        omega
      have Hes4 := Lib.hid (New.cellAt hk4 HE.out.e7.cell)
      have Hat4 := Lib.hid hat4
      have Hk4 := Lib.hid hk4
      clear ho4 hn4 hat4 hk4
      go_wp2_with fail
      refine (write_any (ad 7) _ b bb _ gk s _ _ p Hat4.out hfit Hp4.out Hpb4.out Hlen.out Hes4.out hgl).mono ?_
      rintro e w5 ⟨m, s5, rfl, hw5, g5, hat5, hg5, hk5⟩
      have H5 : Hid (AInv (ad 7) w b bb (w.heap.size + 1) w.heap.size room (wsize n) ps (ps.length - (k + 1)) (.int .i64 ((k + 1 : Nat) : Int)) w5) := by
        refine ⟨k + 1, s5, g5, hlt, rfl, hat5, ?_, ?_, rfl⟩
        · refine Hk4.out.trans hk5 (fun i hi e => ?_)
          have := (Hat4.out.blocks i e).1
          omega
        · rw [Hjs.out]
          exact hw5.step Hst.out
      clear hw5 hat5 hg5 hk5
      go_wp2
      go_roundg (ps.length - (k + 1))
      case measure => omega
      case rel => exact H5.out
    · obtain rfl : k = ps.length := by omega
      rw [List.take_length] at hst
      have hfit : s.Fits := (Wr.fresh_fits room (wsize n) hwb r1 r2).step hst (by simp [Wr.fresh]; omega)
      have hgl : 7 < w.heap.size := by have := HE.out.e7.lt; omega
      obtain ⟨hfl1, hfl2⟩ := hst.flush
      have hend := hfl1.ended hfl2
      obtain ⟨s6, hs6⟩ : ∃ s6, s6 = s.flush := ⟨_, rfl⟩
      rw [← hs6] at hfl1 hfl2 hend
      have Hend := Lib.hid hend
      have Hs6 := Lib.hid hs6
      have Hat := Lib.hid hat
      have Hnw := Lib.hid hnw
      have Hlt := Lib.hid hlt
      have hyl : y.length ≤ 140737488355328 := by rw [Hy.out]; simp; omega
      have hnl : ¬ ((ps.length : Int) < ps.length) := by omega
      clear hst hfl1 hfl2 hend hs6 hat hnw hlt hk
      cases he6 : s6.err with
      | true =>
        have Hnum : Hid (num = 9) := by show _ = _; rw [Hnm.out, if_pos (Hend.out.2.1 he6)]
        have He6 := Lib.hid he6
        clear he6
        go_wp2_with fail
        refine (flush_any (ad 7) _ b bb _ gk s _ Hat.out hfit (New.cellAt Hnw.out HE.out.e7.cell) hgl).mono ?_
        rw [← Hs6.out, He6.out]
        rintro e w5 ⟨rfl, g5, hat5, hg5, hk5⟩
        have hn5 : New w w5 := Hnw.out.trans hk5 (fun i hi e => by have := (Hat.out.blocks i e).1; omega)
        have HE5 := Lib.hid (HE.out.keep hn5 (fun _ _ f => f))
        have hgot : s6.snk.got = y := by rw [Hend.out.1, Hy.out]
        have hown5 := hat5.sk.own
        obtain ⟨a5, c5, rfl⟩ := ownsRow_slice hown5
        have c1 : w5.cell? ⟨w.heap.size + 1, 1, none⟩ = some (.slice a5 s6.snk.got.length c5) := cell_of hat5.sk.cells rfl
        rw [hgot] at c1 hown5
        have Hr5 : Hid (BytesAt w5 (.slice a5 y.length c5) y) := ownsRow_rowAt hown5
        have Hn5 := Lib.hid hn5
        clear hat5 hg5 hk5 hn5 hgot hown5
        rw [errW_true]
        go_wp2_with fail
        refine (number_sink _ B0 ad HE5.out).mono ?_
        rintro e w6 ⟨rfl, rfl⟩
        go_wp2_with fail
        refine (copied_any _ y _ Hr5.out hyl).mono ?_
        rintro e w7 ⟨a7, c7, rfl, ho7, hn7⟩
        have Ho7 := Lib.hid ho7
        have Hn7 := Lib.hid (Hn5.out.then hn7)
        have hsz5 := Hn5.out.size
        clear ho7 hn7 c1
        go_wp2
        go_ret2
        exact ⟨a7, c7, by rw [Hnum.out]; rfl, ownsRow_lower Ho7.out hsz5, Hn7.out⟩
      | false =>
        have Hnum : Hid (num = 0) := by show _ = _; rw [Hnm.out, if_neg (fun h => by rw [Hend.out.2.2 h] at he6; cases he6)]
        have He6 := Lib.hid he6
        clear he6
        go_wp2_with fail
        refine (flush_any (ad 7) _ b bb _ gk s _ Hat.out hfit (New.cellAt Hnw.out HE.out.e7.cell) hgl).mono ?_
        rw [← Hs6.out, He6.out]
        rintro e w5 ⟨rfl, g5, hat5, hg5, hk5⟩
        have hn5 : New w w5 := Hnw.out.trans hk5 (fun i hi e => by have := (Hat.out.blocks i e).1; omega)
        have hgot : s6.snk.got = y := by rw [Hend.out.1, Hy.out]
        have hown5 := hat5.sk.own
        obtain ⟨a5, c5, rfl⟩ := ownsRow_slice hown5
        have c1 : w5.cell? ⟨w.heap.size + 1, 1, none⟩ = some (.slice a5 s6.snk.got.length c5) := cell_of hat5.sk.cells rfl
        rw [hgot] at c1 hown5
        have Hr5 : Hid (BytesAt w5 (.slice a5 y.length c5) y) := ownsRow_rowAt hown5
        have Hn5 := Lib.hid hn5
        clear hat5 hg5 hk5 hn5 hgot hown5
        rw [errW_false]
        go_wp2_with fail
        refine (number_nil _).mono ?_
        rintro e w6 ⟨rfl, rfl⟩
        go_wp2_with fail
        refine (copied_any _ y _ Hr5.out hyl).mono ?_
        rintro e w7 ⟨a7, c7, rfl, ho7, hn7⟩
        have Ho7 := Lib.hid ho7
        have Hn7 := Lib.hid (Hn5.out.then hn7)
        have hsz5 := Hn5.out.size
        clear ho7 hn7 c1
        go_wp2
        go_ret2
        exact ⟨a7, c7, by rw [Hnum.out]; rfl, ownsRow_lower Ho7.out hsz5, Hn7.out⟩
end Go.Proofs.YtfigpbcmnlkdjaaDoor
