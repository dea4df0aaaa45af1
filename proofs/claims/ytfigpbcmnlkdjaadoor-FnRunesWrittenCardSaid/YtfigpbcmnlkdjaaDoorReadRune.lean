/-
  The walk of ReadRune, where what is left to be read begins with the bytes of a rune, or nothing is left, and the source's end is io.EOF.
-/
import Derived.Test.YtfigpbcmnlkdjaaDoorSliceA
import Derived.Test.YtfigpbcmnlkdjaaDoorFullP
import Derived.OwnWalk
namespace Go.Proofs.YtfigpbcmnlkdjaaDoor
open Go.RowKit

def RuInv (ev : Evs) (w : World) (b bb br : Nat) (st0 : Rd) (g : Nat) (wr : World) : Prop :=
  ∃ st : Rd, st.Fit ∧ RdAt ev wr b bb br st ∧ st0.On st 0 ∧ Keep (fun i => i = b ∨ i = bb ∨ i = br) w wr ∧ g = st.more

theorem Rd.On.fill {b c : Rd} {n : Nat} (h : b.On c n) (hf : c.avail < c.size) : b.On c.fill n :=
  ⟨Rd.fill_fit h.fit hf, h.same.trans (Rd.fill_like c).same, by rw [Rd.fill_cur h.fit]; exact h.cur⟩
theorem Rd.On.clear {b c : Rd} {n : Nat} (h : b.On c n) : b.On c.clear n := ⟨h.fit.clear, ⟨h.same.data, h.same.cuts, h.same.eof, h.same.wth, h.same.size⟩, h.cur⟩
theorem Rd.On.marks {b c : Rd} {n : Nat} (h : b.On c n) (x y : Int) (hx : -1 ≤ x ∧ x ≤ 255) (hy : -1 ≤ y ∧ y ≤ 4) : b.On { c with lb := x, lr := y } n :=
  ⟨h.fit.marks x y hx hy, ⟨h.same.data, h.same.cuts, h.same.eof, h.same.wth, h.same.size⟩, h.cur⟩

theorem rest_whole {z : Int} {t r : List UInt8} {n : Nat} (hr : r = (runeB z ++ t).take n) (hn : (runeB z).length ≤ n) : ∃ t', r = runeB z ++ t' :=
  ⟨t.take (n - (runeB z).length), by rw [hr, List.take_append]; rw [List.take_of_length_le hn]⟩
theorem rest_part {z : Int} {t r : List UInt8} {n : Nat} (hr : r = (runeB z ++ t).take n) (hn : n < (runeB z).length) : r = (runeB z).take n := by
  rw [hr, List.take_append_of_le_length (by omega)]

set_option maxRecDepth 100000 in
set_option maxHeartbeats 4000000 in
theorem readRune_some (ev : Evs) (w : World) (B0 : Nat) (ad : Nat → Addr) (hE : Errs w B0 ad) (hev : ev true = .iface 93 (.pointer (some (ad 0)))) (hT : Tabs w) (hTB : 9 < B0 ∧ 10 < B0) (b bb br : Nat) (hB : B0 ≤ b ∧ B0 ≤ bb ∧ B0 ≤ br) (st0 : Rd) (h : RdAt ev w b bb br st0) (fit : st0.Fit)
    (he : st0.src.eof = true) (hdl : st0.src.data.length ≤ 4294967296) (hcl : st0.src.cuts.length ≤ 140737488355328) (z : Int) (hz : Rune z) (t : List UInt8) (htd : st0.todo = runeB z ++ t) (L : Nat) (hL : (runeB z).length = L) :
    Calls Tryd.prog 23 #[.pointer (some ⟨b, 0, none⟩)] w fun e w' => e = .returned (.tuple #[.int .i32 z, .int .i64 L, .nilIface]) ∧ ∃ st', RdAt ev w' b bb br st' ∧ st0.On st' L ∧ Keep (fun i => i = b ∨ i = bb ∨ i = br) w w' := by
  have hLb := runeB_length z
  rw [hL] at hLb
  have HL := Lib.hid hL
  have Hz := Lib.hid hz
  clear hL hz
  have hbl := (show b < w.heap.size from (Array.getElem?_eq_some_iff.1 h.rd).1)
  have HI : Hid (RuInv ev w b bb br st0 st0.more w) := ⟨st0, fit, h, ⟨fit, Rd.Same.refl _, rfl⟩, Keep.refl _ _, rfl⟩
  have HE := Lib.hid hE
  have Hev := Lib.hid hev
  have HT := Lib.hid hT
  have Htd := Lib.hid htd
  obtain ⟨g0, hg0⟩ : ∃ g0, st0.more = g0 := ⟨_, rfl⟩
  rw [hg0] at HI
  clear h fit hE hev hT htd hg0
  go_enter Tryd.func23, Tryd.ntmps23
  go_wp2_with fail
  go_loopg [] g0 (fun g wr => RuInv ev w b bb br st0 g wr)
  case atStart => exact HI.out
  case round =>
    obtain ⟨st, fit, hat, hon, hkw, rfl⟩ := hrel
    obtain ⟨n1, n2, n3, hrd, ⟨cs, hbf, hcs, hct⟩, hsr⟩ := id hat
    have ok := fit.ok
    have hokr := ok.r
    have hokw := ok.w
    have hoks := ok.size
    obtain ⟨R, hR⟩ : ∃ R, st.r = R := ⟨_, rfl⟩
    obtain ⟨W, hW⟩ : ∃ W, st.buf.length = W := ⟨_, rfl⟩
    obtain ⟨Z, hZ⟩ : ∃ Z, st.size = Z := ⟨_, rfl⟩
    obtain ⟨N, hN⟩ : ∃ N, W - R = N := ⟨_, rfl⟩
    have hav : st.avail = N := by unfold Rd.avail; rw [hR, hW, hN]
    rw [hR, hW] at hokr
    rw [hW, hZ] at hokw
    rw [hZ] at hoks
    have htodo : st.todo = st0.todo := by have := hon.todo; rw [List.drop_zero] at this; exact this
    have hrest := fit.rest
    rw [hav] at hrest
    have hrl : st.rest.length = N := by rw [Rd.rest_length, hav]
    have hE2 := HE.out.keep hkw (fun i hi e => by rcases e with e | e | e <;> omega)
    have hT2 := HT.out.keep hkw (by rintro (e | e | e) <;> omega) (by rintro (e | e | e) <;> omega)
    have heof : st.src.eof = true := by rw [hon.same.eof]; exact he
    have c4' : wr.cell? ⟨b, 4, none⟩ = some (errV ev st.src st.err) := cell_of hrd rfl
    rw [hR, hW, hZ] at hrd
    have c0 : wr.cell? ⟨b, 0, none⟩ = some (.slice (some ⟨bb, 0, none⟩) Z Z) := cell_of hrd rfl
    have c2 : wr.cell? ⟨b, 2, none⟩ = some (.int .i64 R) := cell_of hrd rfl
    have c3 : wr.cell? ⟨b, 3, none⟩ = some (.int .i64 W) := cell_of hrd rfl
    have hcells := hat.rest_at ok R W (by rw [hR]; exact Nat.le_refl _) hokr (by rw [hW]; exact Nat.le_refl _) st.rest (by rw [hR, show R - R = 0 by omega]; show st.rest = st.rest.take _; rw [List.take_of_length_le (by rw [hrl]; omega)])
    obtain ⟨off, hC, hoff⟩ := slice_cut_at (P := Tryd.prog) 23 5 Tryd.underlying23 sizeByte bb Z Z R W hokr hokw .i64 .i64
    rw [hN] at hC
    have hce : CellsAt wr ⟨bb, off, none⟩ (bytesV st.rest) := by
      by_cases hlo : R < Z
      · rw [hoff hlo]; exact hcells.1
      · have : st.rest = [] := List.eq_nil_of_length_eq_zero (by omega)
        rw [this]
        intro j u hu
        simp [bytesV] at hu
    have hw4 : IntKind.i64.wrap ((R : Int) + 4) = (R : Int) + 4 := IntWalk.i64_in _ (by omega)
    have k1 : (0 : Int) ≤ R := by omega
    have k2 : (R : Int) ≤ W := by omega
    have k3 : (W : Int) ≤ Z := by omega
    have hNi : (W : Int) - R = N := by omega
    have Hfit := Lib.hid fit
    have Hat := Lib.hid hat
    have Hon := Lib.hid hon
    have Hkw := Lib.hid hkw
    have Hrd := Lib.hid hrd
    have HR := Lib.hid hR
    have HW := Lib.hid hW
    have HZ := Lib.hid hZ
    have HN := Lib.hid hN
    have Hav := Lib.hid hav
    have Htodo := Lib.hid htodo
    have Hrest := Lib.hid hrest
    have Hrl := Lib.hid hrl
    have HE2 := Lib.hid hE2
    have HT2 := Lib.hid hT2
    have Heof := Lib.hid heof
    have Hce := Lib.hid hce
    have Hoff := Lib.hid hoff
    have hNW : N ≤ W := by omega
    have hNR : R + N = W := by omega
    have hgl := hE2.e0.lt
    clear hrd hbf hcs hct hsr hat hon fit ok hkw hR hW hZ hN hav htodo hrest hrl hE2 hT2 heof hcells hce hoff
    by_cases hpart : N < L
    · have HNE : Hid (¬ st.err = true) := fun e => by
        have h7 := Hfit.out.rest_all (Hfit.out.ok.err e)
        have h8 := congrArg List.length h7
        rw [Hrl.out, Htodo.out, Htd.out, List.length_append, HL.out] at h8
        omega
      have HP : Hid (N = 0 ∨ ∃ z, Rune z ∧ N < (runeB z).length ∧ st.rest = (runeB z).take N) := .inr ⟨z, Hz.out, by rw [HL.out]; exact hpart, rest_part (by rw [← Htd.out, ← Htodo.out]; exact Hrest.out) (by rw [HL.out]; exact hpart)⟩
      have herr : st.err = false := by
        cases he9 : st.err with
        | false => rfl
        | true => exact absurd he9 (HNE.out)
      have c4 : wr.cell? ⟨b, 4, none⟩ = some .nilIface := by rw [c4', herr]; rfl
      have Herr := Lib.hid herr
      have hlt4 : (W : Int) < (R : Int) + 4 := by omega
      have hltZ : (N : Int) < Z := by omega
      have hws : IntKind.i64.wrap ((W : Int) - R) = (N : Int) := by rw [hNi]; exact IntWalk.i64_in _ (by omega)
      have hwN : IntKind.i64.wrap (N : Int) = (N : Int) := IntWalk.i64_in _ (by omega)
      have HS0 : Hid (wr.drew.cell? ⟨b, 0, none⟩ = some (.slice (some ⟨bb, 0, none⟩) Z Z) ∧ wr.drew.cell? ⟨b, 2, none⟩ = some (.int .i64 R) ∧ wr.drew.cell? ⟨b, 3, none⟩ = some (.int .i64 W) ∧ wr.drew.cell? ⟨b, 4, none⟩ = some .nilIface) := ⟨c0, c2, c3, c4⟩
      have HSn := Lib.hid (fun (w' : World) (h : New wr.drew w') => (show w'.cell? ⟨b, 0, none⟩ = some (.slice (some ⟨bb, 0, none⟩) Z Z) ∧ w'.cell? ⟨b, 2, none⟩ = some (.int .i64 R) ∧ w'.cell? ⟨b, 3, none⟩ = some (.int .i64 W) ∧ w'.cell? ⟨b, 4, none⟩ = some .nilIface from ⟨New.cellAt h c0, New.cellAt h c2, New.cellAt h c3, New.cellAt h c4⟩))
      have HTd : Hid (Tabs wr.drew) := HT2.out.keep ((Keep.refl (fun _ => False) wr).drew) (fun f => f) (fun f => f)
      have HceD : Hid (CellsAt wr.drew ⟨bb, off, none⟩ (bytesV st.rest)) := Hce.out
      clear c4' herr
      go_wp2_with fail
      go_region_held3 (fun w' => w'.cell? ⟨b, 0, none⟩ = some (.slice (some ⟨bb, 0, none⟩) Z Z) ∧ w'.cell? ⟨b, 2, none⟩ = some (.int .i64 R) ∧ w'.cell? ⟨b, 3, none⟩ = some (.int .i64 W) ∧ w'.cell? ⟨b, 4, none⟩ = some .nilIface)
        (first | exact ⟨c0, c2, c3, c4⟩ | exact HS0.out | exact HSn.out _ hn2)
        (first | (go_at_call 34; refine (full_part _ HTd.out bb off N (Z - R) st.rest Hrl.out HceD.out HP.out).mono ?_; rintro e w2 ⟨rfl, hn2⟩))
      rename_i hh
      have hnw : New wr w2 := ((Keep.refl _ wr).drew).then hn2
      have HA2 : Hid (RdAt ev w2 b bb br st) := Hat.out.new hnw
      have HNw := Lib.hid hnw
      have hEx := HE2.out.keep hnw (fun _ _ f => f)
      have HEx := Lib.hid hEx.e0.cell
      have Hmo := Lib.hid (Rd.fill_more Hfit.out.ok (by rw [Hav.out, HZ.out]; omega) Herr.out)
      clear hh HSn HS0 hn2 hnw c0 c2 c3 c4 hEx
      go_wp2_with fail
      refine (fill_any _ b bb br st (ad 0) ev Hev.out HA2.out Hfit.out.ok Herr.out (by rw [HZ.out]; omega) (by rw [Hav.out, HZ.out]; omega) (by rw [Hon.out.same.data]; omega) (by rw [Hon.out.same.cuts]; exact hcl) Heof.out HEx.out (by omega) (by omega) (by omega)).mono ?_
      rintro e w5 ⟨rfl, ha', hk5⟩
      have H5 : Hid (RuInv ev w b bb br st0 st.fill.more w5) := ⟨st.fill, Rd.fill_fit Hfit.out (by rw [Hav.out, HZ.out]; omega), ha', Hon.out.fill (by rw [Hav.out, HZ.out]; omega), (Hkw.out.then HNw.out).trans hk5 (fun _ _ e => e), rfl⟩
      clear ha' hk5
      go_wp2
      go_roundg st.fill.more
      case measure => exact Hmo.out
      case rel => exact H5.out
    · obtain ⟨t', ht'⟩ := rest_whole (z := z) (t := t) (r := st.rest) (n := N) (by rw [← Htd.out, ← Htodo.out]; exact Hrest.out) (by rw [HL.out]; omega)
      have Ht' := Lib.hid ht'
      clear ht'
      by_cases h4 : N < 4
      · have hlt4 : (W : Int) < (R : Int) + 4 := by omega
        have hfw := fun (k : Nat) => full_whole (wr.drewN k) (HT2.out.keep ((Keep.refl (fun _ => False) wr).drewN k) (fun f => f) (fun f => f)) bb off N (Z - R) st.rest Hrl.out (by omega) Hce.out z Hz.out t' Ht'.out
        have Hfw := Lib.hid hfw
        clear hfw
        go_wp2_with fail
        go_quiet ((go_at_call 34; exact Calls.quiet_of_same (Hfw.out _)))
        have HNw : Hid (New wr (wr.drewN nq)) := (Keep.refl _ wr).drewN _
        generalize wr.drewN nq = w2 at HNw ⊢
        have hnw := HNw.out
        have hat2 := Hat.out.new hnw
        have hrd2 := (hnw.block b (Array.getElem?_eq_some_iff.1 Hrd.out).1 (fun f => f)).trans Hrd.out
        have x0 : w2.cell? ⟨b, 0, none⟩ = some (.slice (some ⟨bb, 0, none⟩) Z Z) := cell_of hrd2 rfl
        have x2 : w2.cell? ⟨b, 2, none⟩ = some (.int .i64 R) := cell_of hrd2 rfl
        have x3 : w2.cell? ⟨b, 3, none⟩ = some (.int .i64 W) := cell_of hrd2 rfl
        have x6 := cell_of (o := 6) hrd2 rfl
        have y6 : w2.frozen? ⟨b, 6, none⟩ = false := frozen_of hrd2
        have hneq : ((R : Int) == W) = false := by simp; omega
        have hne2 : ¬ (R : Int) = W := by omega
        have hkA : Keep (fun i => i = b) w2 (w2.setCell ⟨b, 6, none⟩ (.int .i64 (-1))) := (Keep.refl _ w2).set1 6 _
        have hatA : RdAt ev (w2.setCell ⟨b, 6, none⟩ (.int .i64 (-1))) b bb br { st with lr := -1 } := hat2.setL (-1)
        have hTA : Tabs (w2.setCell ⟨b, 6, none⟩ (.int .i64 (-1))) := (HT2.out.keep hnw (fun f => f) (fun f => f)).keep hkA (fun e => by omega) (fun e => by omega)
        have hceA : CellsAt (w2.setCell ⟨b, 6, none⟩ (.int .i64 (-1))) ⟨bb, off, none⟩ (bytesV st.rest) := (Hce.out.keep hnw (fun _ f => f)).keep hkA (fun _ e => n1 e.symm)
        have HKA : Hid (Keep (fun i => i = b ∨ i = bb ∨ i = br) w (w2.setCell ⟨b, 6, none⟩ (.int .i64 (-1)))) := (Hkw.out.then hnw).trans hkA (fun i _ e => .inl e)
        have HatA := Lib.hid hatA
        have HTA := Lib.hid hTA
        have HceA := Lib.hid hceA
        have hbn : ¬ bb = b := fun e => n1 e.symm
        clear hnw hat2 hrd2 hkA hatA hTA hceA c0 c2 c3 c4' hw4
        go_wp2_with fail
        go_quiet (fail)
        go_wp2_with fail
        have HnB : Hid (New (w2.setCell ⟨b, 6, none⟩ (.int .i64 (-1))) ((w2.setCell ⟨b, 6, none⟩ (.int .i64 (-1))).drewN nq)) := (Keep.refl _ _).drewN _
        generalize (w2.setCell ⟨b, 6, none⟩ (.int .i64 (-1))).drewN nq = wB at HnB ⊢
        have hatB := HatA.out.new HnB.out
        have hrdB := hatB.rd
        rw [show ({ st with lr := -1 } : Rd).size = Z from HZ.out, show ({ st with lr := -1 } : Rd).r = R from HR.out, show ({ st with lr := -1 } : Rd).buf.length = W from HW.out] at hrdB
        have z0 : wB.cell? ⟨b, 0, none⟩ = some (.slice (some ⟨bb, 0, none⟩) Z Z) := cell_of hrdB rfl
        have z2 : wB.cell? ⟨b, 2, none⟩ = some (.int .i64 R) := cell_of hrdB rfl
        have z3 : wB.cell? ⟨b, 3, none⟩ = some (.int .i64 W) := cell_of hrdB rfl
        have HS0 : Hid (wB.drew.cell? ⟨b, 0, none⟩ = some (.slice (some ⟨bb, 0, none⟩) Z Z) ∧ wB.drew.cell? ⟨b, 2, none⟩ = some (.int .i64 R) ∧ wB.drew.cell? ⟨b, 3, none⟩ = some (.int .i64 W)) := ⟨z0, z2, z3⟩
        have HSn := Lib.hid (fun (w' : World) (h : New wB.drew w') => (show w'.cell? ⟨b, 0, none⟩ = some (.slice (some ⟨bb, 0, none⟩) Z Z) ∧ w'.cell? ⟨b, 2, none⟩ = some (.int .i64 R) ∧ w'.cell? ⟨b, 3, none⟩ = some (.int .i64 W) from ⟨New.cellAt h z0, New.cellAt h z2, New.cellAt h z3⟩))
        have HTB : Hid (Tabs wB.drew) := (HTA.out.keep HnB.out (fun f => f) (fun f => f)).keep ((Keep.refl (fun _ => False) wB).drew) (fun f => f) (fun f => f)
        have hceB : CellsAt wB ⟨bb, off, none⟩ (bytesV st.rest) := HceA.out.keep HnB.out (fun _ f => f)
        have HceB : Hid (CellsAt wB.drew ⟨bb, off, none⟩ (bytesV st.rest)) := hceB
        clear hceB
        have HatB := Lib.hid hatB
        clear hatB hrdB x0 x2 x3 x6 y6
        go_region_held3 (fun w' => w'.cell? ⟨b, 0, none⟩ = some (.slice (some ⟨bb, 0, none⟩) Z Z) ∧ w'.cell? ⟨b, 2, none⟩ = some (.int .i64 R) ∧ w'.cell? ⟨b, 3, none⟩ = some (.int .i64 W))
          (first | exact ⟨z0, z2, z3⟩ | exact HS0.out | exact HSn.out _ hn3)
          (first | (go_at_call 35; refine (decode_rune _ HTB.out bb off N (Z - R) st.rest Hrl.out HceB.out z Hz.out t' Ht'.out L HL.out).mono ?_; rintro e w3 ⟨rfl, hn3⟩))
        rename_i hh
        have hnB3 : New wB w3 := ((Keep.refl _ wB).drew).then hn3
        have hat3 := HatB.out.new hnB3
        have hrd3 := hat3.rd
        rw [show ({ st with lr := -1 } : Rd).size = Z from HZ.out, show ({ st with lr := -1 } : Rd).r = R from HR.out, show ({ st with lr := -1 } : Rd).buf.length = W from HW.out] at hrd3
        have x0 : w3.cell? ⟨b, 0, none⟩ = some (.slice (some ⟨bb, 0, none⟩) Z Z) := cell_of hrd3 rfl
        have x2 : w3.cell? ⟨b, 2, none⟩ = some (.int .i64 R) := cell_of hrd3 rfl
        have x5 := cell_of (o := 5) hrd3 rfl
        have x6 := cell_of (o := 6) hrd3 rfl
        have y2 : w3.frozen? ⟨b, 2, none⟩ = false := frozen_of hrd3
        have y5 : w3.frozen? ⟨b, 5, none⟩ = false := frozen_of hrd3
        have y6 : w3.frozen? ⟨b, 6, none⟩ = false := frozen_of hrd3
        obtain ⟨q, hq⟩ : ∃ q, R + L = q + 1 := ⟨R + L - 1, by omega⟩
        have hq1 : (R : Int) + L - 1 = (q : Int) := by omega
        have hqZ : (q : Int) < Z := by omega
        have hq0 : (0 : Int) ≤ q := by omega
        have hlr : L - 1 < st.rest.length := by rw [Hrl.out]; omega
        obtain ⟨u, hu⟩ : ∃ u : UInt8, u = st.rest[L - 1] := ⟨_, rfl⟩
        have xq : w3.cell? ⟨bb, q, none⟩ = some (.int .u8 (u.toNat : Int)) := by
          have h7 := Hoff.out (by omega)
          have h8 : CellsAt w3 ⟨bb, off, none⟩ (bytesV st.rest) := HceB.out.keep hn3 (fun _ f => f)
          have h9 := h8 (L - 1) (byteV u) (by unfold bytesV; rw [List.getElem?_map, List.getElem?_eq_getElem hlr, ← hu]; rfl)
          rw [addr_off, h7, show R + (L - 1) = q by omega] at h9
          exact h9
        have hub := u.toNat_lt
        have hwL : IntKind.i64.wrap ((R : Int) + L) = (R : Int) + L := IntWalk.i64_in _ (by omega)
        have hwq : IntKind.i64.wrap (q : Int) = (q : Int) := IntWalk.i64_in _ (by omega)
        have HnB3 := Lib.hid hnB3
        have Hat3 := Lib.hid hat3
        have HK3 : Hid (Keep (fun i => i = b ∨ i = bb ∨ i = br) w w3) := (HKA.out.then HnB.out).then hnB3
        clear hh hn3 HSn HS0 z0 z2 z3 hnB3 hat3 hrd3 hu hlr hq hC
        go_wp2
        go_region
        go_wp2
        (try simp only [Exit.inBlock, Exit.then]); refine bodyPost_ret (results_tmp3 rfl _ _ _) rfl ?_
        refine ⟨rfl, { st with r := R + L, lb := u.toNat, lr := L }, ?_, ?_, ?_⟩
        · exact (((Hat3.out.setR (R + L)).setB u.toNat).setL L).drew
        · have h8 := Hon.out.trans (Hfit.out.step L (by rw [Hav.out]; omega) u.toNat L (by omega) (by omega))
          rw [HR.out, Nat.zero_add] at h8
          exact h8
        · exact HK3.out.trans (T := fun i => i = b) ((((Keep.refl _ w3).set1 2 _).set1 5 _).set1 6 _).drew (fun i _ e => .inl e)
      · have hge4 : decide ((W : Int) < (R : Int) + 4) = false := decide_eq_false (by omega)
        go_wp2_with fail
        go_quiet (fail)
        have HNw : Hid (New wr (wr.drewN nq)) := (Keep.refl _ wr).drewN _
        generalize wr.drewN nq = w2 at HNw ⊢
        have hnw := HNw.out
        have hat2 := Hat.out.new hnw
        have hrd2 := (hnw.block b (Array.getElem?_eq_some_iff.1 Hrd.out).1 (fun f => f)).trans Hrd.out
        have x0 : w2.cell? ⟨b, 0, none⟩ = some (.slice (some ⟨bb, 0, none⟩) Z Z) := cell_of hrd2 rfl
        have x2 : w2.cell? ⟨b, 2, none⟩ = some (.int .i64 R) := cell_of hrd2 rfl
        have x3 : w2.cell? ⟨b, 3, none⟩ = some (.int .i64 W) := cell_of hrd2 rfl
        have x6 := cell_of (o := 6) hrd2 rfl
        have y6 : w2.frozen? ⟨b, 6, none⟩ = false := frozen_of hrd2
        have hneq : ((R : Int) == W) = false := by simp; omega
        have hne2 : ¬ (R : Int) = W := by omega
        have hkA : Keep (fun i => i = b) w2 (w2.setCell ⟨b, 6, none⟩ (.int .i64 (-1))) := (Keep.refl _ w2).set1 6 _
        have hatA : RdAt ev (w2.setCell ⟨b, 6, none⟩ (.int .i64 (-1))) b bb br { st with lr := -1 } := hat2.setL (-1)
        have hTA : Tabs (w2.setCell ⟨b, 6, none⟩ (.int .i64 (-1))) := (HT2.out.keep hnw (fun f => f) (fun f => f)).keep hkA (fun e => by omega) (fun e => by omega)
        have hceA : CellsAt (w2.setCell ⟨b, 6, none⟩ (.int .i64 (-1))) ⟨bb, off, none⟩ (bytesV st.rest) := (Hce.out.keep hnw (fun _ f => f)).keep hkA (fun _ e => n1 e.symm)
        have HKA : Hid (Keep (fun i => i = b ∨ i = bb ∨ i = br) w (w2.setCell ⟨b, 6, none⟩ (.int .i64 (-1)))) := (Hkw.out.then hnw).trans hkA (fun i _ e => .inl e)
        have HatA := Lib.hid hatA
        have HTA := Lib.hid hTA
        have HceA := Lib.hid hceA
        have hbn : ¬ bb = b := fun e => n1 e.symm
        clear hnw hat2 hrd2 hkA hatA hTA hceA c0 c2 c3 c4' hw4
        go_wp2_with fail
        go_quiet (fail)
        go_wp2_with fail
        have HnB : Hid (New (w2.setCell ⟨b, 6, none⟩ (.int .i64 (-1))) ((w2.setCell ⟨b, 6, none⟩ (.int .i64 (-1))).drewN nq)) := (Keep.refl _ _).drewN _
        generalize (w2.setCell ⟨b, 6, none⟩ (.int .i64 (-1))).drewN nq = wB at HnB ⊢
        have hatB := HatA.out.new HnB.out
        have hrdB := hatB.rd
        rw [show ({ st with lr := -1 } : Rd).size = Z from HZ.out, show ({ st with lr := -1 } : Rd).r = R from HR.out, show ({ st with lr := -1 } : Rd).buf.length = W from HW.out] at hrdB
        have z0 : wB.cell? ⟨b, 0, none⟩ = some (.slice (some ⟨bb, 0, none⟩) Z Z) := cell_of hrdB rfl
        have z2 : wB.cell? ⟨b, 2, none⟩ = some (.int .i64 R) := cell_of hrdB rfl
        have z3 : wB.cell? ⟨b, 3, none⟩ = some (.int .i64 W) := cell_of hrdB rfl
        have HS0 : Hid (wB.drew.cell? ⟨b, 0, none⟩ = some (.slice (some ⟨bb, 0, none⟩) Z Z) ∧ wB.drew.cell? ⟨b, 2, none⟩ = some (.int .i64 R) ∧ wB.drew.cell? ⟨b, 3, none⟩ = some (.int .i64 W)) := ⟨z0, z2, z3⟩
        have HSn := Lib.hid (fun (w' : World) (h : New wB.drew w') => (show w'.cell? ⟨b, 0, none⟩ = some (.slice (some ⟨bb, 0, none⟩) Z Z) ∧ w'.cell? ⟨b, 2, none⟩ = some (.int .i64 R) ∧ w'.cell? ⟨b, 3, none⟩ = some (.int .i64 W) from ⟨New.cellAt h z0, New.cellAt h z2, New.cellAt h z3⟩))
        have HTB : Hid (Tabs wB.drew) := (HTA.out.keep HnB.out (fun f => f) (fun f => f)).keep ((Keep.refl (fun _ => False) wB).drew) (fun f => f) (fun f => f)
        have hceB : CellsAt wB ⟨bb, off, none⟩ (bytesV st.rest) := HceA.out.keep HnB.out (fun _ f => f)
        have HceB : Hid (CellsAt wB.drew ⟨bb, off, none⟩ (bytesV st.rest)) := hceB
        clear hceB
        have HatB := Lib.hid hatB
        clear hatB hrdB x0 x2 x3 x6 y6
        go_region_held3 (fun w' => w'.cell? ⟨b, 0, none⟩ = some (.slice (some ⟨bb, 0, none⟩) Z Z) ∧ w'.cell? ⟨b, 2, none⟩ = some (.int .i64 R) ∧ w'.cell? ⟨b, 3, none⟩ = some (.int .i64 W))
          (first | exact ⟨z0, z2, z3⟩ | exact HS0.out | exact HSn.out _ hn3)
          (first | (go_at_call 35; refine (decode_rune _ HTB.out bb off N (Z - R) st.rest Hrl.out HceB.out z Hz.out t' Ht'.out L HL.out).mono ?_; rintro e w3 ⟨rfl, hn3⟩))
        rename_i hh
        have hnB3 : New wB w3 := ((Keep.refl _ wB).drew).then hn3
        have hat3 := HatB.out.new hnB3
        have hrd3 := hat3.rd
        rw [show ({ st with lr := -1 } : Rd).size = Z from HZ.out, show ({ st with lr := -1 } : Rd).r = R from HR.out, show ({ st with lr := -1 } : Rd).buf.length = W from HW.out] at hrd3
        have x0 : w3.cell? ⟨b, 0, none⟩ = some (.slice (some ⟨bb, 0, none⟩) Z Z) := cell_of hrd3 rfl
        have x2 : w3.cell? ⟨b, 2, none⟩ = some (.int .i64 R) := cell_of hrd3 rfl
        have x5 := cell_of (o := 5) hrd3 rfl
        have x6 := cell_of (o := 6) hrd3 rfl
        have y2 : w3.frozen? ⟨b, 2, none⟩ = false := frozen_of hrd3
        have y5 : w3.frozen? ⟨b, 5, none⟩ = false := frozen_of hrd3
        have y6 : w3.frozen? ⟨b, 6, none⟩ = false := frozen_of hrd3
        obtain ⟨q, hq⟩ : ∃ q, R + L = q + 1 := ⟨R + L - 1, by omega⟩
        have hq1 : (R : Int) + L - 1 = (q : Int) := by omega
        have hqZ : (q : Int) < Z := by omega
        have hq0 : (0 : Int) ≤ q := by omega
        have hlr : L - 1 < st.rest.length := by rw [Hrl.out]; omega
        obtain ⟨u, hu⟩ : ∃ u : UInt8, u = st.rest[L - 1] := ⟨_, rfl⟩
        have xq : w3.cell? ⟨bb, q, none⟩ = some (.int .u8 (u.toNat : Int)) := by
          have h7 := Hoff.out (by omega)
          have h8 : CellsAt w3 ⟨bb, off, none⟩ (bytesV st.rest) := HceB.out.keep hn3 (fun _ f => f)
          have h9 := h8 (L - 1) (byteV u) (by unfold bytesV; rw [List.getElem?_map, List.getElem?_eq_getElem hlr, ← hu]; rfl)
          rw [addr_off, h7, show R + (L - 1) = q by omega] at h9
          exact h9
        have hub := u.toNat_lt
        have hwL : IntKind.i64.wrap ((R : Int) + L) = (R : Int) + L := IntWalk.i64_in _ (by omega)
        have hwq : IntKind.i64.wrap (q : Int) = (q : Int) := IntWalk.i64_in _ (by omega)
        have HnB3 := Lib.hid hnB3
        have Hat3 := Lib.hid hat3
        have HK3 : Hid (Keep (fun i => i = b ∨ i = bb ∨ i = br) w w3) := (HKA.out.then HnB.out).then hnB3
        clear hh hn3 HSn HS0 z0 z2 z3 hnB3 hat3 hrd3 hu hlr hq hC
        go_wp2
        go_region
        go_wp2
        (try simp only [Exit.inBlock, Exit.then]); refine bodyPost_ret (results_tmp3 rfl _ _ _) rfl ?_
        refine ⟨rfl, { st with r := R + L, lb := u.toNat, lr := L }, ?_, ?_, ?_⟩
        · exact (((Hat3.out.setR (R + L)).setB u.toNat).setL L).drew
        · have h8 := Hon.out.trans (Hfit.out.step L (by rw [Hav.out]; omega) u.toNat L (by omega) (by omega))
          rw [HR.out, Nat.zero_add] at h8
          exact h8
        · exact HK3.out.trans (T := fun i => i = b) ((((Keep.refl _ w3).set1 2 _).set1 5 _).set1 6 _).drew (fun i _ e => .inl e)
end Go.Proofs.YtfigpbcmnlkdjaaDoor
