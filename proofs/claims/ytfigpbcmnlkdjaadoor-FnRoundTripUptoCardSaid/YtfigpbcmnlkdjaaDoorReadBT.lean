/-
  The walk of the thin package's ReadBytesTo, where the source's end is io.EOF.
-/
import Derived.Test.YtfigpbcmnlkdjaaDoorReadB
import Derived.Test.YtfigpbcmnlkdjaaDoorOuts
namespace Go.Proofs.YtfigpbcmnlkdjaaDoor
open Go.RowKit

theorem number_er (w : World) (B : Nat) (ad : Nat → Addr) (h : Errs w B ad) (er : Er) (her : er = erNone ∨ er = erEnds) (k : Int) (hk : (er : Int) = k) : Calls Tryd.prog 22 #[erV (ad 0) (ad 1) er] w fun e w' => e = .returned (.int .i64 k) ∧ w = w' := by
  subst hk
  rcases her with rfl | rfl
  · rw [erV_none]; exact number_nil w
  · rw [erV_ends]; exact number_eof w B ad h

/-- Results of ReadBytes in a row of their own, each one's bytes in memory of their own. -/
def OutsB (base : Nat) (w : World) (v : Value) (os : List (List UInt8 × Er)) : Prop :=
  ∃ rs : List OutR, w.ownsRow base 33 5 v os.length (outsR rs) ∧ rs.length = os.length ∧ ∀ (j : Nat) (r : OutR) (o : List UInt8 × Er), rs[j]? = some r → os[j]? = some o → BytesAt w r.bv o.1 ∧ r.err = (o.2 : Int) ∧ ∀ i, Value.inBlock r.bv i → base ≤ i ∧ v.ownBlock ≠ some i

theorem OutsB.nil (base : Nat) (w : World) : OutsB base w (.slice none 0 0) [] :=
  ⟨[], World.ownsRow_nil _ _ _ _, rfl, fun j u p hu => by simp at hu⟩

theorem OutsB.keep {S : Nat → Prop} {base : Nat} {w w' : World} {v : Value} {os : List (List UInt8 × Er)} (h : OutsB base w v os) (k : Keep S w w') (hS : ∀ i, base ≤ i → ¬ S i) : OutsB base w' v os := by
  obtain ⟨rs, h1, h2, h3⟩ := h
  refine ⟨rs, ownsRow_keep h1 k (fun i hi => hS i (h1.lt i hi).1), h2, fun j u p hu hp => ?_⟩
  obtain ⟨q1, q3, q2⟩ := h3 j u p hu hp
  exact ⟨RowAt.keep q1 k (fun i hi => hS i (q2 i hi).1), q3, q2⟩

theorem OutsB.lower {base base' : Nat} {w : World} {v : Value} {os : List (List UInt8 × Er)} (h : OutsB base w v os) (hb : base' ≤ base) : OutsB base' w v os := by
  obtain ⟨rs, h1, h2, h3⟩ := h
  refine ⟨rs, ownsRow_lower h1 hb, h2, fun j u p hu hp => ?_⟩
  obtain ⟨q1, q3, q2⟩ := h3 j u p hu hp
  exact ⟨q1, q3, fun i hi => ⟨by have := (q2 i hi).1; omega, (q2 i hi).2⟩⟩

theorem OutsB.snoc {base : Nat} {w w3 : World} {v v' : Value} {os : List (List UInt8 × Er)} {x : List UInt8 × Er} {o : Obj} {rs : List OutR} {k0 : Nat} {u : OutR}
    (h2 : rs.length = os.length) (h3 : ∀ (j : Nat) (r : OutR) (o : List UInt8 × Er), rs[j]? = some r → os[j]? = some o → BytesAt w r.bv o.1 ∧ r.err = (o.2 : Int) ∧ ∀ i, Value.inBlock r.bv i → base ≤ i ∧ v.ownBlock ≠ some i)
    (hu : BytesAt w u.bv x.1) (hue : u.err = (x.2 : Int)) (hub : ∀ i, Value.inBlock u.bv i → base ≤ i ∧ k0 ≤ i) (hv : ∀ i, v.ownBlock = some i → i < k0)
    (ho : w3.ownsRow base 33 5 v' (os.length + 1) (outsR (rs ++ [u]))) (hg : (w.alloc o).grownBy w3 v.ownBlock) (hb : ∀ k, v'.ownBlock = some k → v.ownBlock = some k ∨ k = (w.alloc o).heap.size) : OutsB base w3 v' (os ++ [x]) := by
  have hk : Keep (fun i => v.ownBlock = some i) w w3 := ((Keep.refl (fun i => v.ownBlock = some i) w).alloc o).grown hg (fun k hk => .inl hk)
  have hx : ∀ (u : Value) (p : List UInt8), BytesAt w u p → (∀ i, Value.inBlock u i → base ≤ i ∧ v.ownBlock ≠ some i) → BytesAt w3 u p ∧ ∀ i, Value.inBlock u i → base ≤ i ∧ v'.ownBlock ≠ some i := by
    intro u p hp hi
    refine ⟨RowAt.keep hp hk (fun i h => (hi i h).2), fun i h => ⟨(hi i h).1, fun e => ?_⟩⟩
    rcases hb i e with e | e
    · exact (hi i h).2 e
    · have := RowAt.lt hp i h
      simp at e
      omega
  refine ⟨rs ++ [u], by rw [List.length_append]; exact ho, by simp [h2], fun j u' p hu' hp => ?_⟩
  by_cases hj : j < rs.length
  · rw [List.getElem?_append_left hj] at hu'
    rw [List.getElem?_append_left (by omega)] at hp
    obtain ⟨q1, q3, q2⟩ := h3 j u' p hu' hp
    obtain ⟨q4, q5⟩ := hx u'.bv p.1 q1 q2
    exact ⟨q4, q3, q5⟩
  · rw [List.getElem?_append_right (by omega)] at hu'
    rw [List.getElem?_append_right (by omega)] at hp
    have hj0 : j - rs.length = 0 := by
      rcases Nat.eq_zero_or_pos (j - rs.length) with h | h
      · exact h
      · rw [List.getElem?_eq_none (by simp; omega)] at hu'; cases hu'
    rw [hj0] at hu'
    rw [show j - os.length = 0 by omega] at hp
    simp only [List.getElem?_cons_zero, Option.some.injEq] at hu' hp
    subst hu' hp
    obtain ⟨q4, q5⟩ := hx u.bv x.1 hu (fun i hi => ⟨(hub i hi).1, fun e => by have := hv i e; have := (hub i hi).2; omega⟩)
    exact ⟨q4, hue, q5⟩

theorem take_snoc {l : List UInt8} {i : Nat} {d : UInt8} (h : l[i]? = some d) : l.take (i + 1) = l.take i ++ [d] := by
  rw [List.take_add_one, h]; rfl

def BtInv (ev : Evs) (w2 : World) (b bb br : Nat) (ds : List UInt8) (fr : Rd) (g : Nat) (vo vi : Value) (wr : World) : Prop :=
  ∃ (i : Nat) (va : Option Addr) (vc : Nat), i ≤ ds.length ∧ vi = .int .i64 i ∧ vo = .slice va i vc ∧ OutsB w2.heap.size wr vo (Rd.manyB (ds.take i) fr).2 ∧ RdAt ev wr b bb br (Rd.manyB (ds.take i) fr).1 ∧ Keep (fun i => i = b ∨ i = bb ∨ i = br) w2 wr ∧ g = ds.length - i

set_option maxRecDepth 100000 in
set_option maxHeartbeats 4000000 in
theorem readBytesTo_any (w : World) (B0 : Nat) (ad : Nat → Addr) (hE : Errs w B0 ad) (hB0 : B0 ≤ w.heap.size) (n : Int) (dv cv : Value) (wth : Bool) (data : List UInt8) (cuts : List Int) (da : Option Addr) (dn dc : Nat) (ds : List UInt8) (hdv : BytesAt w dv data) (hcv : IntsAt w cv cuts) (hvd : BytesAt w (.slice da dn dc) ds) (hdn : ds.length = dn)
    (h1 : -32768 ≤ n) (h2 : n ≤ 32767) (hdl : data.length ≤ 4294967296) (hcl : cuts.length ≤ 4294967296) (hds : dn ≤ 4294967296) (os : List (List UInt8 × Er)) (hos : (Rd.manyB ds (Rd.fresh (Src.start data cuts true wth) (max 16 n).toNat)).2 = os) :
    Calls Tryd.prog 15 #[.int .i16 n, .agg #[dv, cv, .int .i64 0, .bool wth], .slice da dn dc] w fun e w' => ∃ a' c', e = .returned (.slice a' dn c') ∧ OutsB w.heap.size w' (.slice a' dn c') os ∧ New w w' := by
  obtain ⟨j0, hj, hy0, hy1, hy2⟩ := info_parts infoOutR
  have hna : New w (w.alloc (.cells #[dv, cv, .int .i64 0, .bool wth] 30)) := (Keep.refl _ w).alloc _
  have HNA := Lib.hid hna
  have HE := Lib.hid hE
  have Hvd := Lib.hid hvd
  have Hdn := Lib.hid hdn
  have Hos := Lib.hid hos
  have Hdv := Lib.hid (hdv.new hna)
  have Hcv := Lib.hid (hcv.new hna)
  clear hE hvd hdv hcv hna hdn hos
  go_enter Tryd.func15, Tryd.ntmps15
  go_wp2_with fail
  refine (start_any dv cv 0 wth data cuts _ Hdv.out Hcv.out (by omega) (by omega)).mono ?_
  rintro e w1 ⟨br, rfl, hb1, hs1, hn1⟩
  obtain ⟨ev, hev⟩ : ∃ ev : Evs, ev = ⟨fun _ => .iface 93 (.pointer (some (ad 0))), fun i => w1.heap.size ≤ i⟩ := ⟨_, rfl⟩
  have hev1 : ev true = .iface 93 (.pointer (some (ad 0))) := by rw [hev]
  have hev2 : ∀ i, ev.far i ↔ w1.heap.size ≤ i := by intro i; rw [hev]
  have HS := Lib.hid (hs1.other (M := fun i => i = br ∨ ev.far i) (fun i hi e => e.elim .inl (fun f => by have := (hev2 i).1 f; omega)))
  have HN1 := Lib.hid (HNA.out.then hn1)
  have hbr : w.heap.size ≤ br := by have := HNA.out.size; omega
  have hsz1 := (HNA.out.then hn1).size
  have Hev1 := Lib.hid hev1
  have Hev2 := Lib.hid hev2
  clear hs1 hn1 hb1 hev hev1 hev2
  go_wp2_with fail
  refine (newReader_any ev br _ n w1 HS.out h1 h2).mono ?_
  rintro e w2 ⟨b, bb, rfl, hb2, hbb2, hr, hn2⟩
  have hfit : (Rd.fresh (Src.start data cuts true wth) (max 16 n).toNat).Fit := Rd.fresh_fit _ _ (Src.start_ok _ _ _ _) (by omega) (by omega)
  have hr' : RdAt ev w2 b bb br (Rd.fresh (Src.start data cuts true wth) (max 16 n).toNat) := hr
  have hos2 := Hos.out
  obtain ⟨fr, hfr⟩ : ∃ fr, fr = Rd.fresh (Src.start data cuts true wth) (max 16 n).toNat := ⟨_, rfl⟩
  rw [← hfr] at hfit hr' hos2
  have hfd : fr.src.data = data ∧ fr.src.cuts = cuts ∧ fr.src.eof = true := by rw [hfr]; exact ⟨rfl, rfl, rfl⟩
  have hlt2 := hr'.lt
  have hsz2 := hn2.size
  have HN2 := Lib.hid (HN1.out.then hn2)
  have Hfit := Lib.hid hfit
  have Hos2 := Lib.hid hos2
  have Hfd := Lib.hid hfd
  have H0 : Hid (BtInv ev w2 b bb br ds fr dn (.slice none 0 0) (.int .i64 0) w2) := ⟨0, none, 0, Nat.zero_le _, rfl, rfl, OutsB.nil _ _, hr', Keep.refl _ _, by rw [Hdn.out]; rfl⟩
  clear hr hr' hn2 hfit hos2 hfr hfd
  go_wp2_with fail
  go_loopg [8, 21, 10, 11, 12] dn (fun g vo vi x10 x11 x12 wr => BtInv ev w2 b bb br ds fr g vo vi wr)
  case atStart => exact H0.out
  case round =>
    obtain ⟨i, va, vc, hi, rfl, rfl, hob, hat, hkw, rfl⟩ := hrel
    rw [Hdn.out] at hi
    by_cases hlt : i < dn
    · have hid : i < ds.length := by rw [Hdn.out]; exact hlt
      obtain ⟨d, hd⟩ : ∃ d : UInt8, ds[i]? = some d := ⟨_, List.getElem?_eq_getElem hid⟩
      obtain ⟨bv, ov, rfl, hcd⟩ := bytes_one (Hvd.out.new HN2.out) hid
      have q0 := hcd i hid
      rw [show ds[i] = d from (List.getElem?_eq_some_iff.1 hd).2] at q0
      have q1 : wr.cell? ⟨bv, ov + i, none⟩ = some (.int .u8 (d.toNat : Int)) := hkw.cellAt q0 (by
        have h7 := RowAt.lt Hvd.out bv ⟨_, _, _, rfl, by omega, rfl⟩
        rintro (e | e | e) <;> simp only at e <;> omega)
      have hE2 := HE.out.keep (HN2.out.trans hkw (fun k hk e => by rcases e with e | e | e <;> omega)) (fun _ _ f => f)
      obtain ⟨nn, hon⟩ := Rd.manyB_fit (ds.take i) fr Hfit.out
      obtain ⟨st, hst⟩ : ∃ st, st = (Rd.manyB (ds.take i) fr).1 := ⟨_, rfl⟩
      rw [← hst] at hat hon
      have hbo := Rd.readBytes_on hon.fit d
      obtain ⟨st1, y, er, hrb⟩ : ∃ st1 y er, st.readBytes d = (st1, y, er) := ⟨_, _, _, rfl⟩
      rw [hrb] at hbo
      simp only at hbo
      have her : er = erNone ∨ er = erEnds := by rw [hbo.err]; split <;> simp
      obtain ⟨N, hN⟩ : ∃ N, y.length = N := ⟨_, rfl⟩
      have hyl : N ≤ 4294967296 := by
        have h4 := hbo.on.fit.cur_le
        have h5 := hbo.on.cur
        rw [hbo.on.same.data, hon.same.data, Hfd.out.1] at h4
        omega
      have hsn := Rd.manyB_snoc (ds.take i) d fr
      rw [← take_snoc hd, ← hst, hrb] at hsn
      simp only at hsn
      obtain ⟨rs0, hrs0⟩ : ∃ rs0, rs0 = (Rd.manyB (ds.take i) fr).2 := ⟨_, rfl⟩
      rw [← hrs0] at hob hsn
      have hrl : rs0.length = i := by rw [hrs0, Rd.manyB_length, List.length_take, Hdn.out]; omega
      obtain ⟨ki, hki⟩ : ∃ ki : Int, (er : Int) = ki := ⟨_, rfl⟩
      have Hob := Lib.hid hob
      have Hat := Lib.hid hat
      have Hkw := Lib.hid hkw
      have HE2 := Lib.hid hE2
      have Hon := Lib.hid hon
      have Hrb := Lib.hid hrb
      have Her := Lib.hid her
      have HN := Lib.hid hN
      have Hsn := Lib.hid hsn
      have Hrl := Lib.hid hrl
      have Hki := Lib.hid hki
      have hdlt := d.toNat_lt
      have hlt' : (i : Int) < dn := by omega
      have hszr := hkw.size
      have Hfar : Hid (∀ k, wr.heap.size ≤ k → ev.far k) := fun k hk => (Hev2.out k).2 (by omega)
      clear hob hat hkw hE2 hon hrb her hN hsn hrl hki hbo hcd q0 hst hrs0 hd
      go_wp2_with fail
      refine (readBytes_any ev wr B0 ad HE2.out Hev1.out b bb br ⟨by omega, by omega, by omega⟩ st Hat.out Hon.out.fit d Hfar.out (by rw [Hon.out.same.eof]; exact Hfd.out.2.2) (by rw [Hon.out.same.data, Hfd.out.1]; exact hdl) (by rw [Hon.out.same.cuts, Hfd.out.2.1]; omega) st1 y er Hrb.out N HN.out).mono ?_
      rintro e w3 ⟨nb, rfl, hb3, hnb, hat3, hk3⟩
      have Hob3 := Lib.hid (Hob.out.keep hk3 (fun k hk e => by rcases e with e | e | e <;> omega))
      have Hk3 := Lib.hid (Hkw.out.trans hk3 (fun _ _ e => e))
      have Hb3 := Lib.hid hb3
      have Hat3 := Lib.hid hat3
      have hsz3 := (Hkw.out.trans hk3 (fun _ _ e => e)).size
      obtain ⟨ve, hve⟩ : ∃ ve, erV (ad 0) (ad 1) er = ve := ⟨_, rfl⟩
      rw [hve]
      have Hve := Lib.hid hve
      clear hb3 hat3 hk3 q1 hve hnb
      go_wp2_with fail
      refine (copied_any _ y _ Hb3.out (by rw [HN.out]; omega)).mono ?_
      rintro e w4 ⟨a4, c4, rfl, ho4, hn4⟩
      rw [HN.out] at ho4 ⊢
      have hr4 : BytesAt w4 (.slice a4 N c4) y := ownsRow_rowAt ho4
      have hub : ∀ k, Value.inBlock (.slice a4 N c4) k → w2.heap.size ≤ k ∧ w3.heap.size ≤ k := fun k hk => by
        have h7 := (ho4.lt k (inBlock_own hk)).1
        omega
      have hvb : ∀ k, (Value.slice va i vc).ownBlock = some k → k < w3.heap.size := fun k hk => by
        obtain ⟨pvs', p1, _⟩ := Hob3.out
        exact (p1.lt k hk).2
      obtain ⟨rs, o1, o2, o3⟩ := Hob3.out.keep hn4 (fun _ _ f => f)
      rw [Hrl.out] at o1
      have HE4 := Lib.hid (HE.out.keep ((HN2.out.trans Hk3.out (fun k hk e => by rcases e with e | e | e <;> omega)).then hn4) (fun _ _ f => f))
      have Hr4 := Lib.hid hr4
      have Hub := Lib.hid hub
      have Hvb := Lib.hid hvb
      have Ho1 := Lib.hid o1
      have Ho2 := Lib.hid o2
      have Ho3 := Lib.hid o3
      have Hn4 := Lib.hid hn4
      have hsz4 := hn4.size
      clear hr4 hub hvb o1 o2 o3 hn4 ho4
      go_wp2_with fail
      rw [← Hve.out]
      refine (number_er _ B0 ad HE4.out er Her.out ki Hki.out).mono ?_
      rintro e w5 ⟨rfl, rfl⟩
      have HE0 := Lib.hid (OutR.made w4 ⟨.slice a4 N c4, 0, 0, ki⟩)
      have HE1 := Lib.hid (OutR.one ⟨.slice a4 N c4, 0, 0, ki⟩ rfl)
      unfold OutR.cells at HE0
      have hm1 : i + 1 ≤ maxLen := by unfold maxLen; omega
      go_wp2_with (at_builtin; refine wpList_append_row rfl _ _ 27 rfl w2.heap.size 33 j0 (.agg (outZ (.slice none 0 0) 0)) 5 48 Tryd.underlying27 hj hy0 hy1 hy2 (by rfl) (by decide) _ i (outsR rs) (by rfl) (Ho1.out.alloc _) (some ⟨w4.heap.size, 0, none⟩) 1 1 (OutR.cells ⟨.slice a4 N c4, 0, 0, ki⟩).toList (by rfl) (by intro e; cases e) (by rfl) HE0.out HE1.out hm1 (by omega) (by simp; omega) ?_)
      intro a7 c7 w7 ho7 hg7 hb7
      have H7 : Hid (BtInv ev w2 b bb br ds fr (ds.length - (i + 1)) (.slice a7 (i + 1) c7) (.int .i64 ((i + 1 : Nat) : Int)) w7) := by
        have hk7 : Keep (fun k => (Value.slice va i vc).ownBlock = some k) w4 w7 := ((Keep.refl (fun k => (Value.slice va i vc).ownBlock = some k) w4).alloc _).grown hg7 (fun k hk => .inl hk)
        have hge : ∀ k, (Value.slice va i vc).ownBlock = some k → w2.heap.size ≤ k := fun k e => (Ho1.out.lt k e).1
        have h37 : Keep (fun k => w2.heap.size ≤ k) w3 w7 := (Hn4.out.mono (fun _ _ f => f.elim)).trans hk7 (fun k _ e => hge k e)
        refine ⟨i + 1, a7, c7, by omega, rfl, rfl, ?_, ?_, ?_, rfl⟩
        · rw [Hsn.out]
          refine OutsB.snoc (u := ⟨.slice a4 N c4, 0, 0, ki⟩) (k0 := w3.heap.size) Ho2.out Ho3.out Hr4.out Hki.out.symm Hub.out Hvb.out ?_ hg7 (by simpa using hb7)
          rw [outsR_snoc, Hrl.out]
          exact ho7
        · rw [Hsn.out]
          exact Hat3.out.keep h37 ⟨by omega, by omega, by omega⟩ (fun k _ e => (Hev2.out k).2 (by omega))
        · exact (Hk3.out.then Hn4.out).trans hk7 (fun k hk e => by have := hge k e; omega)
      clear ho7 hg7 hb7
      go_wp2
      go_roundg (ds.length - (i + 1))
      case measure => omega
      case rel => exact H7.out
    · obtain rfl : i = dn := by omega
      rw [show ds.take i = ds by rw [← Hdn.out, List.take_length], Hos2.out] at hob
      have hnl : ¬ ((i : Int) < i) := by omega
      have Hob := Lib.hid hob
      have Hkw := Lib.hid hkw
      clear hob hkw hat hlt
      go_wp2
      go_ret
      exact ⟨va, vc, rfl, Hob.out.lower (by omega), HN2.out.trans Hkw.out (fun k hk e => by rcases e with e | e | e <;> omega)⟩
end Go.Proofs.YtfigpbcmnlkdjaaDoor
