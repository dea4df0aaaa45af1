/-
  The walk of the thin package's ReadRunes over a source of whole runes, one call more than there are runes; the source's end is io.EOF.
-/
import Derived.Test.YtfigpbcmnlkdjaaDoorReadRuneE
import Derived.Test.YtfigpbcmnlkdjaaDoorOuts
import Derived.Test.YtfigpbcmnlkdjaaDoorPureW2
namespace Go.Proofs.YtfigpbcmnlkdjaaDoor
open Go.RowKit

/-- What one ReadRune gives: a rune and its size, or the end. -/
def RuneNext (td : List UInt8) (rv : Int) (L : Nat) (er : Er) : Prop :=
  (∃ t, Rune rv ∧ td = runeB rv ++ t ∧ (runeB rv).length = L ∧ er = erNone) ∨ (td = [] ∧ rv = 0 ∧ L = 0 ∧ er = erEnds)

theorem readRune_next (ev : Evs) (w : World) (B0 : Nat) (ad : Nat → Addr) (hE : Errs w B0 ad) (hev : ev true = .iface 93 (.pointer (some (ad 0)))) (hT : Tabs w) (hTB : 9 < B0 ∧ 10 < B0) (b bb br : Nat) (hB : B0 ≤ b ∧ B0 ≤ bb ∧ B0 ≤ br) (st0 : Rd) (h : RdAt ev w b bb br st0) (fit : st0.Fit)
    (he : st0.src.eof = true) (hdl : st0.src.data.length ≤ 4294967296) (hcl : st0.src.cuts.length ≤ 140737488355328) (rv : Int) (L : Nat) (er : Er) (hn : RuneNext st0.todo rv L er) (ve : Value) (hve : erV (ad 0) (ad 1) er = ve) :
    Calls Tryd.prog 23 #[.pointer (some ⟨b, 0, none⟩)] w fun e w' => e = .returned (.tuple #[.int .i32 rv, .int .i64 L, ve]) ∧ ∃ st', RdAt ev w' b bb br st' ∧ st0.On st' L ∧ Keep (fun i => i = b ∨ i = bb ∨ i = br) w w' := by
  subst hve
  rcases hn with ⟨t, h1, h2, h3, rfl⟩ | ⟨h1, rfl, rfl, rfl⟩
  · exact readRune_some ev w B0 ad hE hev hT hTB b bb br hB st0 h fit he hdl hcl rv h1 t h2 L h3
  · exact readRune_end ev w B0 ad hE hev hT hTB b bb br hB st0 h fit he hdl hcl h1

theorem number_ru (w : World) (B : Nat) (ad : Nat → Addr) (h : Errs w B ad) (er : Er) (her : er = erNone ∨ er = erEnds) (k : Int) (hk : (er : Int) = k) (ve : Value) (hve : erV (ad 0) (ad 1) er = ve) : Calls Tryd.prog 22 #[ve] w fun e w' => e = .returned (.int .i64 k) ∧ w = w' := by
  subst hk hve
  rcases her with rfl | rfl
  · exact number_nil w
  · exact number_eof w B ad h

/-- The results: each rune and its size, and behind them the end. -/
def runeOut (zs : List Int) (i : Nat) : OutR := if i < zs.length then ⟨.slice none 0 0, (runeB (zs.getD i 0)).length, zs.getD i 0, 0⟩ else ⟨.slice none 0 0, 0, 0, 1⟩
def runeOuts (zs : List Int) (m : Nat) : List OutR := (List.range m).map (runeOut zs)
theorem runeOuts_length (zs : List Int) (m : Nat) : (runeOuts zs m).length = m := by simp [runeOuts]
theorem runeOuts_succ (zs : List Int) (m : Nat) : runeOuts zs (m + 1) = runeOuts zs m ++ [runeOut zs m] := by simp [runeOuts, List.range_succ]
theorem runeOuts_get (zs : List Int) (m i : Nat) (h : i < m) : (runeOuts zs m)[i]? = some (runeOut zs i) := by simp [runeOuts, h]

/-- What is left behind i runes. -/
def runesLeft (zs : List Int) (i : Nat) : List UInt8 := joined ((zs.drop i).map runeB)

theorem runesLeft_next (zs : List Int) (hz : ∀ z ∈ zs, Rune z) (i : Nat) : ∃ (rv : Int) (L : Nat) (er : Er), RuneNext (runesLeft zs i) rv L er ∧ runeOut zs i = ⟨.slice none 0 0, L, rv, (er : Int)⟩ ∧ (runesLeft zs i).drop L = runesLeft zs (i + 1) ∧ (er = erNone ∨ er = erEnds) := by
  by_cases h : i < zs.length
  · have hd : zs.drop i = zs[i] :: zs.drop (i + 1) := List.drop_eq_getElem_cons h
    have hg : zs.getD i 0 = zs[i] := by simp [h]
    have e1 : runesLeft zs i = runeB zs[i] ++ runesLeft zs (i + 1) := by unfold runesLeft joined; rw [hd]; rfl
    refine ⟨zs[i], (runeB zs[i]).length, erNone, .inl ⟨runesLeft zs (i + 1), hz _ (List.getElem_mem h), e1, rfl, rfl⟩, ?_, ?_, .inl rfl⟩
    · unfold runeOut; rw [if_pos h, hg]; rfl
    · rw [e1]; simp
  · have e1 : runesLeft zs i = [] := by unfold runesLeft; rw [List.drop_eq_nil_of_le (by omega)]; rfl
    have e2 : runesLeft zs (i + 1) = [] := by unfold runesLeft; rw [List.drop_eq_nil_of_le (by omega)]; rfl
    refine ⟨0, 0, erEnds, .inr ⟨e1, rfl, rfl, rfl⟩, ?_, by rw [e1, e2]; rfl, .inr rfl⟩
    unfold runeOut; rw [if_neg h]; rfl

def RsInv (ev : Evs) (w2 : World) (b bb br m : Nat) (zs : List Int) (fr : Rd) (g : Nat) (vo vi : Value) (wr : World) : Prop :=
  ∃ (i : Nat) (va : Option Addr) (vc : Nat) (st : Rd), i ≤ m ∧ vi = .int .u16 i ∧ vo = .slice va i vc ∧ wr.ownsRow w2.heap.size 33 5 (.slice va i vc) i (outsR (runeOuts zs i)) ∧ st.Fit ∧ st.todo = runesLeft zs i ∧ fr.Same st ∧ RdAt ev wr b bb br st ∧ Keep (fun i => i = b ∨ i = bb ∨ i = br) w2 wr ∧ g = m - i

theorem RdAt.keepR {S : Nat → Prop} {ev : Evs} {w w' : World} {b bb br : Nat} {st : Rd} (h : RdAt ev w b bb br st) (k : Keep S w w') (hb : ¬ S b ∧ ¬ S bb ∧ ¬ S br) (hS : ∀ i, i < w.heap.size → S i → ev.far i) : RdAt ev w' b bb br st := by
  obtain ⟨n1, n2, n3, hrd, ⟨cs, hbf, hcs, hct⟩, hsr⟩ := h
  exact ⟨n1, n2, n3, (k.block b (Array.getElem?_eq_some_iff.1 hrd).1 hb.1).trans hrd, ⟨cs, (k.block bb (Array.getElem?_eq_some_iff.1 hbf).1 hb.2.1).trans hbf, hcs, hct⟩, hsr.keep k hb.2.2 (fun i hi e => .inr (.inr (.inr (hS i hi e))))⟩

set_option maxRecDepth 100000 in
set_option maxHeartbeats 4000000 in
theorem readRunes_any (w : World) (B0 : Nat) (ad : Nat → Addr) (hE : Errs w B0 ad) (hB0 : B0 ≤ w.heap.size) (hT : Tabs w) (hTB : 9 < B0 ∧ 10 < B0) (n : Int) (dv cv : Value) (wth : Bool) (zs : List Int) (hz : ∀ z ∈ zs, Rune z) (data : List UInt8) (hdata : data = runesLeft zs 0) (cuts : List Int) (hdv : BytesAt w dv data) (hcv : IntsAt w cv cuts)
    (h1 : -32768 ≤ n) (h2 : n ≤ 32767) (hdl : data.length ≤ 4294967296) (hcl : cuts.length * 8 ≤ 140737488355328) (m : Nat) (hm : m ≤ 65001) :
    Calls Tryd.prog 12 #[.int .i16 n, .agg #[dv, cv, .int .i64 0, .bool wth], .int .u16 m] w fun e w' => ∃ a' c', e = .returned (.slice a' m c') ∧ w'.ownsRow w.heap.size 33 5 (.slice a' m c') m (outsR (runeOuts zs m)) ∧ New w w' := by
  obtain ⟨j0, hj, hy0, hy1, hy2⟩ := info_parts infoOutR
  have hna : New w (w.alloc (.cells #[dv, cv, .int .i64 0, .bool wth] 30)) := (Keep.refl _ w).alloc _
  have HNA := Lib.hid hna
  have HE := Lib.hid hE
  have HT := Lib.hid hT
  have Hz := Lib.hid hz
  have Hdv := Lib.hid (hdv.new hna)
  have Hcv := Lib.hid (hcv.new hna)
  have Hdata := Lib.hid hdata
  clear hE hdv hcv hna hT hz hdata
  go_enter Tryd.func12, Tryd.ntmps12
  go_wp2_with fail
  refine (start_any dv cv 0 wth data cuts _ Hdv.out Hcv.out (by omega) (by omega)).mono ?_
  rintro e w1 ⟨br, rfl, hb1, hs1, hn1⟩
  obtain ⟨ev, hev⟩ : ∃ ev : Evs, ev = ⟨fun _ => .iface 93 (.pointer (some (ad 0))), fun i => w1.heap.size ≤ i⟩ := ⟨_, rfl⟩
  have hev1 : ev true = .iface 93 (.pointer (some (ad 0))) := by rw [hev]
  have hev2 : ∀ i, ev.far i ↔ w1.heap.size ≤ i := by intro i; rw [hev]
  have HS := Lib.hid (hs1.other (M := fun i => i = br ∨ ev.far i) (fun i hi e => e.elim .inl (fun f => by have := (hev2 i).1 f; omega)))
  have HN1 := Lib.hid (HNA.out.then hn1)
  have hbr : w.heap.size ≤ br := by have := HNA.out.size; omega
  have hsz1 := (HNA.out.then hn1).size
  have Hev1 := Lib.hid hev1
  have Hev2 := Lib.hid hev2
  clear hs1 hn1 hb1 hev hev1 hev2
  go_wp2_with fail
  refine (newReader_any ev br _ n w1 HS.out h1 h2).mono ?_
  rintro e w2 ⟨b, bb, rfl, hb2, hbb2, hr, hn2⟩
  have hfit : (Rd.fresh (Src.start data cuts true wth) (max 16 n).toNat).Fit := Rd.fresh_fit _ _ (Src.start_ok _ _ _ _) (by omega) (by omega)
  have htd : (Rd.fresh (Src.start data cuts true wth) (max 16 n).toNat).todo = data := by simp [Rd.todo, Rd.cur, Rd.fresh, Rd.avail, Src.start, Src.nx]
  have hr' : RdAt ev w2 b bb br (Rd.fresh (Src.start data cuts true wth) (max 16 n).toNat) := hr
  obtain ⟨fr, hfr⟩ : ∃ fr, fr = Rd.fresh (Src.start data cuts true wth) (max 16 n).toNat := ⟨_, rfl⟩
  rw [← hfr] at hfit hr' htd
  have hfd : fr.src.data = data ∧ fr.src.cuts = cuts ∧ fr.src.eof = true := by rw [hfr]; exact ⟨rfl, rfl, rfl⟩
  have hlt2 : b < w2.heap.size ∧ bb < w2.heap.size ∧ br < w2.heap.size := by
    obtain ⟨n1, n2, n3, hrd, ⟨cs, hbf, hcs, hct⟩, hsr⟩ := hr'
    exact ⟨(Array.getElem?_eq_some_iff.1 hrd).1, (Array.getElem?_eq_some_iff.1 hbf).1, hsr.lt⟩
  have hsz2 := hn2.size
  have HN2 := Lib.hid (HN1.out.then hn2)
  have Hfd := Lib.hid hfd
  have H0 : Hid (RsInv ev w2 b bb br m zs fr m (.slice none 0 0) (.int .u16 0) w2) := ⟨0, none, 0, fr, Nat.zero_le _, rfl, rfl, by simpa [runeOuts, outsR] using World.ownsRow_nil w2 w2.heap.size 33 5, hfit, by rw [htd]; exact Hdata.out, Rd.Same.refl _, hr', Keep.refl _ _, rfl⟩
  clear hr hr' hn2 hfit hfr hfd htd
  go_wp2_with fail
  go_loopg [8, 19, 9, 10, 11] m (fun g vo vi x9 x10 x11 wr => RsInv ev w2 b bb br m zs fr g vo vi wr)
  case atStart => exact H0.out
  case round =>
    obtain ⟨i, va, vc, st, hi, rfl, rfl, hown, fit, htd, hsame, hat, hkw, rfl⟩ := hrel
    by_cases hlt : i < m
    · obtain ⟨rv, L, er, hnx, hout, hdrop, her⟩ := runesLeft_next zs Hz.out i
      rw [← htd] at hnx hdrop
      have hNw := HN2.out.trans hkw (fun k hk e => by rcases e with e | e | e <;> omega)
      have hE2 := HE.out.keep hNw (fun _ _ f => f)
      have hT2 := HT.out.keep hNw (fun f => f) (fun f => f)
      obtain ⟨ki, hki⟩ : ∃ ki : Int, (er : Int) = ki := ⟨_, rfl⟩
      rw [hki] at hout
      obtain ⟨ve, hve⟩ : ∃ ve, erV (ad 0) (ad 1) er = ve := ⟨_, rfl⟩
      have Hown := Lib.hid hown
      have Hat := Lib.hid hat
      have Hkw := Lib.hid hkw
      have HE2 := Lib.hid hE2
      have HT2 := Lib.hid hT2
      have Hfit := Lib.hid fit
      have Hsame := Lib.hid hsame
      have Hnx := Lib.hid hnx
      have Hout := Lib.hid hout
      have Hdrop := Lib.hid hdrop
      have Her := Lib.hid her
      have Hki := Lib.hid hki
      have Hve := Lib.hid hve
      have hlt' : (i : Int) < m := by omega
      have hszr := hkw.size
      clear hown hat hkw hE2 hT2 fit hsame hnx hout hdrop her hki hve htd hNw
      go_wp2_with fail
      refine (readRune_next ev wr B0 ad HE2.out Hev1.out HT2.out hTB b bb br ⟨by omega, by omega, by omega⟩ st Hat.out Hfit.out (by rw [Hsame.out.eof]; exact Hfd.out.2.2) (by rw [Hsame.out.data, Hfd.out.1]; exact hdl) (by rw [Hsame.out.cuts, Hfd.out.2.1]; omega) rv L er Hnx.out ve Hve.out).mono ?_
      rintro e w3 ⟨rfl, st', hat3, hon3, hk3⟩
      have Hk3 := Lib.hid (Hkw.out.trans hk3 (fun _ _ e => e))
      have Hat3 := Lib.hid hat3
      have Hon3 := Lib.hid hon3
      have hsz3 := (Hkw.out.trans hk3 (fun _ _ e => e)).size
      have Ho3 : Hid (w3.ownsRow w2.heap.size 33 5 (.slice va i vc) i (outsR (runeOuts zs i))) := ownsRow_keep Hown.out hk3 (fun k hk e => by have := (Hown.out.lt k hk).1; rcases e with e | e | e <;> omega)
      have HE3 := Lib.hid (HE.out.keep (HN2.out.trans (Hkw.out.trans hk3 (fun _ _ e => e)) (fun k hk e => by rcases e with e | e | e <;> omega)) (fun _ _ f => f))
      clear hat3 hon3 hk3
      go_wp2_with fail
      refine (number_ru _ B0 ad HE3.out er Her.out ki Hki.out ve Hve.out).mono ?_
      rintro e w5 ⟨rfl, rfl⟩
      have HE0 := Lib.hid (OutR.made w3 ⟨.slice none 0 0, L, rv, ki⟩)
      have HE1 := Lib.hid (OutR.one ⟨.slice none 0 0, L, rv, ki⟩ rfl)
      unfold OutR.cells at HE0
      have hm1 : i + 1 ≤ maxLen := by unfold maxLen; omega
      go_wp2_with (at_builtin; refine wpList_append_row rfl _ _ 27 rfl w2.heap.size 33 j0 (.agg (outZ (.slice none 0 0) 0)) 5 48 Tryd.underlying27 hj hy0 hy1 hy2 (by rfl) (by decide) _ i (outsR (runeOuts zs i)) (by rfl) (Ho3.out.alloc _) (some ⟨w3.heap.size, 0, none⟩) 1 1 (OutR.cells ⟨.slice none 0 0, L, rv, ki⟩).toList (by rfl) (by intro e; cases e) (by rfl) HE0.out HE1.out hm1 (by omega) (by simp; omega) ?_)
      intro a7 c7 w7 ho7 hg7 hb7
      have H7 : Hid (RsInv ev w2 b bb br m zs fr (m - (i + 1)) (.slice a7 (i + 1) c7) (.int .u16 ((i + 1 : Nat) : Int)) w7) := by
        have hk7 : Keep (fun k => (Value.slice va i vc).ownBlock = some k) w3 w7 := ((Keep.refl (fun k => (Value.slice va i vc).ownBlock = some k) w3).alloc _).grown hg7 (fun k hk => .inl hk)
        have hge : ∀ k, (Value.slice va i vc).ownBlock = some k → w2.heap.size ≤ k := fun k e => (Ho3.out.lt k e).1
        refine ⟨i + 1, a7, c7, st', hlt, rfl, rfl, ?_, Hon3.out.fit, by rw [Hon3.out.todo]; exact Hdrop.out, Hsame.out.trans Hon3.out.same, ?_, ?_, rfl⟩
        · rw [runeOuts_succ, outsR_snoc, Hout.out]
          exact ho7
        · exact Hat3.out.keepR hk7 ⟨fun e => by have := hge _ e; omega, fun e => by have := hge _ e; omega, fun e => by have := hge _ e; omega⟩ (fun k _ e => (Hev2.out k).2 (by have := hge k e; omega))
        · exact Hk3.out.trans hk7 (fun k hk e => by have := hge k e; omega)
      clear ho7 hg7 hb7
      go_wp2
      go_roundg (m - (i + 1))
      case measure => omega
      case rel => exact H7.out
    · obtain rfl : i = m := by omega
      have hnl : ¬ ((i : Int) < i) := by omega
      have Hown := Lib.hid hown
      have Hkw := Lib.hid hkw
      clear hown hkw hat hlt fit htd hsame
      go_wp2
      go_ret
      exact ⟨va, vc, rfl, ownsRow_lower Hown.out (by omega), HN2.out.trans Hkw.out (fun k hk e => by rcases e with e | e | e <;> omega)⟩
end Go.Proofs.YtfigpbcmnlkdjaaDoor
