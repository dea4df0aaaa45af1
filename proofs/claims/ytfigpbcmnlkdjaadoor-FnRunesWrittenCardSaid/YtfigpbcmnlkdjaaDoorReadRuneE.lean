/-
  The walk of ReadRune, where nothing is left to be read, and the source's end is io.EOF.
-/
import Derived.Test.YtfigpbcmnlkdjaaDoorReadRune
namespace Go.Proofs.YtfigpbcmnlkdjaaDoor
open Go.RowKit

set_option maxRecDepth 100000 in
set_option maxHeartbeats 4000000 in
theorem readRune_end (ev : Evs) (w : World) (B0 : Nat) (ad : Nat → Addr) (hE : Errs w B0 ad) (hev : ev true = .iface 93 (.pointer (some (ad 0)))) (hT : Tabs w) (hTB : 9 < B0 ∧ 10 < B0) (b bb br : Nat) (hB : B0 ≤ b ∧ B0 ≤ bb ∧ B0 ≤ br) (st0 : Rd) (h : RdAt ev w b bb br st0) (fit : st0.Fit)
    (he : st0.src.eof = true) (hdl : st0.src.data.length ≤ 4294967296) (hcl : st0.src.cuts.length ≤ 140737488355328) (htd : st0.todo = []) :
    Calls Tryd.prog 23 #[.pointer (some ⟨b, 0, none⟩)] w fun e w' => e = .returned (.tuple #[.int .i32 0, .int .i64 0, erV (ad 0) (ad 1) erEnds]) ∧ ∃ st', RdAt ev w' b bb br st' ∧ st0.On st' 0 ∧ Keep (fun i => i = b ∨ i = bb ∨ i = br) w w' := by
  have hbl := (show b < w.heap.size from (Array.getElem?_eq_some_iff.1 h.rd).1)
  have HI : Hid (RuInv ev w b bb br st0 st0.more w) := ⟨st0, fit, h, ⟨fit, Rd.Same.refl _, rfl⟩, Keep.refl _ _, rfl⟩
  have HE := Lib.hid hE
  have Hev := Lib.hid hev
  have HT := Lib.hid hT
  have Htd := Lib.hid htd
  obtain ⟨g0, hg0⟩ : ∃ g0, st0.more = g0 := ⟨_, rfl⟩
  rw [hg0] at HI
  clear h fit hE hev hT htd hg0
  go_enter Tryd.func23, Tryd.ntmps23
  go_wp2_with fail
  go_loopg [] g0 (fun g wr => RuInv ev w b bb br st0 g wr)
  case atStart => exact HI.out
  case round =>
    obtain ⟨st, fit, hat, hon, hkw, rfl⟩ := hrel
    obtain ⟨n1, n2, n3, hrd, ⟨cs, hbf, hcs, hct⟩, hsr⟩ := id hat
    have ok := fit.ok
    have hokr := ok.r
    have hokw := ok.w
    have hoks := ok.size
    obtain ⟨R, hR⟩ : ∃ R, st.r = R := ⟨_, rfl⟩
    obtain ⟨W, hW⟩ : ∃ W, st.buf.length = W := ⟨_, rfl⟩
    obtain ⟨Z, hZ⟩ : ∃ Z, st.size = Z := ⟨_, rfl⟩
    obtain ⟨N, hN⟩ : ∃ N, W - R = N := ⟨_, rfl⟩
    have hav : st.avail = N := by unfold Rd.avail; rw [hR, hW, hN]
    rw [hR, hW] at hokr
    rw [hW, hZ] at hokw
    rw [hZ] at hoks
    have htodo : st.todo = st0.todo := by have := hon.todo; rw [List.drop_zero] at this; exact this
    have hrest := fit.rest
    rw [hav] at hrest
    have hrl : st.rest.length = N := by rw [Rd.rest_length, hav]
    have hE2 := HE.out.keep hkw (fun i hi e => by rcases e with e | e | e <;> omega)
    have hT2 := HT.out.keep hkw (by rintro (e | e | e) <;> omega) (by rintro (e | e | e) <;> omega)
    have heof : st.src.eof = true := by rw [hon.same.eof]; exact he
    have c4' : wr.cell? ⟨b, 4, none⟩ = some (errV ev st.src st.err) := cell_of hrd rfl
    rw [hR, hW, hZ] at hrd
    have c0 : wr.cell? ⟨b, 0, none⟩ = some (.slice (some ⟨bb, 0, none⟩) Z Z) := cell_of hrd rfl
    have c2 : wr.cell? ⟨b, 2, none⟩ = some (.int .i64 R) := cell_of hrd rfl
    have c3 : wr.cell? ⟨b, 3, none⟩ = some (.int .i64 W) := cell_of hrd rfl
    have hcells := hat.rest_at ok R W (by rw [hR]; exact Nat.le_refl _) hokr (by rw [hW]; exact Nat.le_refl _) st.rest (by rw [hR, show R - R = 0 by omega]; show st.rest = st.rest.take _; rw [List.take_of_length_le (by rw [hrl]; omega)])
    obtain ⟨off, hC, hoff⟩ := slice_cut_at (P := Tryd.prog) 23 5 Tryd.underlying23 sizeByte bb Z Z R W hokr hokw .i64 .i64
    rw [hN] at hC
    have hce : CellsAt wr ⟨bb, off, none⟩ (bytesV st.rest) := by
      by_cases hlo : R < Z
      · rw [hoff hlo]; exact hcells.1
      · have : st.rest = [] := List.eq_nil_of_length_eq_zero (by omega)
        rw [this]
        intro j u hu
        simp [bytesV] at hu
    have hw4 : IntKind.i64.wrap ((R : Int) + 4) = (R : Int) + 4 := IntWalk.i64_in _ (by omega)
    have k1 : (0 : Int) ≤ R := by omega
    have k2 : (R : Int) ≤ W := by omega
    have k3 : (W : Int) ≤ Z := by omega
    have hNi : (W : Int) - R = N := by omega
    have Hfit := Lib.hid fit
    have Hat := Lib.hid hat
    have Hon := Lib.hid hon
    have Hkw := Lib.hid hkw
    have Hrd := Lib.hid hrd
    have HR := Lib.hid hR
    have HW := Lib.hid hW
    have HZ := Lib.hid hZ
    have HN := Lib.hid hN
    have Hav := Lib.hid hav
    have Htodo := Lib.hid htodo
    have Hrest := Lib.hid hrest
    have Hrl := Lib.hid hrl
    have HE2 := Lib.hid hE2
    have HT2 := Lib.hid hT2
    have Heof := Lib.hid heof
    have Hce := Lib.hid hce
    have Hoff := Lib.hid hoff
    have hNW : N ≤ W := by omega
    have hNR : R + N = W := by omega
    have hgl := hE2.e0.lt
    clear hrd hbf hcs hct hsr hat hon fit ok hkw hR hW hZ hN hav htodo hrest hrl hE2 hT2 heof hcells hce hoff
    have hN0 : N = 0 := by
      have h8 := congrArg List.length Hrest.out
      rw [Hrl.out, Htodo.out, Htd.out] at h8
      simpa using h8
    by_cases hne : st.err = true
    · subst hN0
      have c4 : wr.cell? ⟨b, 4, none⟩ = some (.iface 93 (.pointer (some (ad 0)))) := by
        rw [c4', hne, ← Hev.out]
        unfold errV
        rw [Heof.out]
        rfl
      have hlt4 : (W : Int) < (R : Int) + 4 := by omega
      have Hne := Lib.hid hne
      clear c4' hne
      go_wp2_with fail
      go_quiet ((go_at_call 34; exact Calls.quiet_of_same (full_empty _ _ _)))
      have HNw : Hid (New wr (wr.drewN nq)) := (Keep.refl _ wr).drewN _
      generalize wr.drewN nq = w2 at HNw ⊢
      have hnw := HNw.out
      have hat2 := Hat.out.new hnw
      have hrd2 := (hnw.block b (Array.getElem?_eq_some_iff.1 Hrd.out).1 (fun f => f)).trans Hrd.out
      obtain rfl : W = R := by omega
      have x2 : w2.cell? ⟨b, 2, none⟩ = some (.int .i64 W) := cell_of hrd2 rfl
      have x3 : w2.cell? ⟨b, 3, none⟩ = some (.int .i64 W) := cell_of hrd2 rfl
      have x6 := cell_of (o := 6) hrd2 rfl
      have y6 : w2.frozen? ⟨b, 6, none⟩ = false := frozen_of hrd2
      have hkA : Keep (fun i => i = b) w2 (w2.setCell ⟨b, 6, none⟩ (.int .i64 (-1))) := (Keep.refl _ w2).set1 6 _
      have hatA : RdAt ev (w2.setCell ⟨b, 6, none⟩ (.int .i64 (-1))) b bb br { st with lr := -1 } := hat2.setL (-1)
      have HKA : Hid (Keep (fun i => i = b ∨ i = bb ∨ i = br) w (w2.setCell ⟨b, 6, none⟩ (.int .i64 (-1)))) := (Hkw.out.then hnw).trans hkA (fun i _ e => .inl e)
      have HatA := Lib.hid hatA
      clear hnw hat2 hrd2 hkA hatA c0 c2 c3 c4 hw4 hC
      go_wp2_with fail
      go_quiet (fail)
      go_wp2_with fail
      have HnB : Hid (New (w2.setCell ⟨b, 6, none⟩ (.int .i64 (-1))) ((w2.setCell ⟨b, 6, none⟩ (.int .i64 (-1))).drewN nq)) := (Keep.refl _ _).drewN _
      generalize (w2.setCell ⟨b, 6, none⟩ (.int .i64 (-1))).drewN nq = wB at HnB ⊢
      refine (readErr_any ev _ b bb br _ (HatA.out.new HnB.out)).mono ?_
      rintro e w3 ⟨rfl, hat3, hk3⟩
      rw [show errV ev ({ st with lr := -1 } : Rd).src ({ st with lr := -1 } : Rd).err = .iface 93 (.pointer (some (ad 0))) by
        rw [← Hev.out]
        show errV ev st.src st.err = _
        unfold errV
        rw [Hne.out, Heof.out]
        rfl]
      have Hat3 := Lib.hid hat3
      have HK3 : Hid (Keep (fun i => i = b ∨ i = bb ∨ i = br) w w3) := (HKA.out.then HnB.out).trans hk3 (fun i _ e => .inl e)
      clear hat3 hk3 x2 x3 x6 y6
      go_wp2
      (try simp only [Exit.inBlock, Exit.then]); refine bodyPost_ret (results_tmp3 rfl _ _ _) rfl ?_
      have hlb := Hfit.out.ok.lb
      exact ⟨rfl, _, Hat3.out, (Hon.out.marks st.lb (-1) hlb (by omega)).clear, HK3.out⟩
    · have HNE := Lib.hid hne
      have HP : Hid (N = 0 ∨ ∃ z, Rune z ∧ N < (runeB z).length ∧ st.rest = (runeB z).take N) := .inl hN0
      have hN3 : N ≤ 3 := by omega
      clear hne hN0
      have herr : st.err = false := by
        cases he9 : st.err with
        | false => rfl
        | true => exact absurd he9 (HNE.out)
      have c4 : wr.cell? ⟨b, 4, none⟩ = some .nilIface := by rw [c4', herr]; rfl
      have Herr := Lib.hid herr
      have hlt4 : (W : Int) < (R : Int) + 4 := by omega
      have hltZ : (N : Int) < Z := by omega
      have hws : IntKind.i64.wrap ((W : Int) - R) = (N : Int) := by rw [hNi]; exact IntWalk.i64_in _ (by omega)
      have hwN : IntKind.i64.wrap (N : Int) = (N : Int) := IntWalk.i64_in _ (by omega)
      have HS0 : Hid (wr.drew.cell? ⟨b, 0, none⟩ = some (.slice (some ⟨bb, 0, none⟩) Z Z) ∧ wr.drew.cell? ⟨b, 2, none⟩ = some (.int .i64 R) ∧ wr.drew.cell? ⟨b, 3, none⟩ = some (.int .i64 W) ∧ wr.drew.cell? ⟨b, 4, none⟩ = some .nilIface) := ⟨c0, c2, c3, c4⟩
      have HSn := Lib.hid (fun (w' : World) (h : New wr.drew w') => (show w'.cell? ⟨b, 0, none⟩ = some (.slice (some ⟨bb, 0, none⟩) Z Z) ∧ w'.cell? ⟨b, 2, none⟩ = some (.int .i64 R) ∧ w'.cell? ⟨b, 3, none⟩ = some (.int .i64 W) ∧ w'.cell? ⟨b, 4, none⟩ = some .nilIface from ⟨New.cellAt h c0, New.cellAt h c2, New.cellAt h c3, New.cellAt h c4⟩))
      have HTd : Hid (Tabs wr.drew) := HT2.out.keep ((Keep.refl (fun _ => False) wr).drew) (fun f => f) (fun f => f)
      have HceD : Hid (CellsAt wr.drew ⟨bb, off, none⟩ (bytesV st.rest)) := Hce.out
      clear c4' herr
      go_wp2_with fail
      go_region_held3 (fun w' => w'.cell? ⟨b, 0, none⟩ = some (.slice (some ⟨bb, 0, none⟩) Z Z) ∧ w'.cell? ⟨b, 2, none⟩ = some (.int .i64 R) ∧ w'.cell? ⟨b, 3, none⟩ = some (.int .i64 W) ∧ w'.cell? ⟨b, 4, none⟩ = some .nilIface)
        (first | exact ⟨c0, c2, c3, c4⟩ | exact HS0.out | exact HSn.out _ hn2)
        (first | (go_at_call 34; refine (full_part _ HTd.out bb off N (Z - R) st.rest Hrl.out HceD.out HP.out).mono ?_; rintro e w2 ⟨rfl, hn2⟩))
      rename_i hh
      have hnw : New wr w2 := ((Keep.refl _ wr).drew).then hn2
      have HA2 : Hid (RdAt ev w2 b bb br st) := Hat.out.new hnw
      have HNw := Lib.hid hnw
      have hEx := HE2.out.keep hnw (fun _ _ f => f)
      have HEx := Lib.hid hEx.e0.cell
      have Hmo := Lib.hid (Rd.fill_more Hfit.out.ok (by rw [Hav.out, HZ.out]; omega) Herr.out)
      clear hh HSn HS0 hn2 hnw c0 c2 c3 c4 hEx
      go_wp2_with fail
      refine (fill_any _ b bb br st (ad 0) ev Hev.out HA2.out Hfit.out.ok Herr.out (by rw [HZ.out]; omega) (by rw [Hav.out, HZ.out]; omega) (by rw [Hon.out.same.data]; omega) (by rw [Hon.out.same.cuts]; exact hcl) Heof.out HEx.out (by omega) (by omega) (by omega)).mono ?_
      rintro e w5 ⟨rfl, ha', hk5⟩
      have H5 : Hid (RuInv ev w b bb br st0 st.fill.more w5) := ⟨st.fill, Rd.fill_fit Hfit.out (by rw [Hav.out, HZ.out]; omega), ha', Hon.out.fill (by rw [Hav.out, HZ.out]; omega), (Hkw.out.then HNw.out).trans hk5 (fun _ _ e => e), rfl⟩
      clear ha' hk5
      go_wp2
      go_roundg st.fill.more
      case measure => exact Hmo.out
      case rel => exact H5.out
end Go.Proofs.YtfigpbcmnlkdjaaDoor
