/-
  The walk of ReadSlice in general, where the source's end is io.EOF.
-/
import Derived.Test.YtfigpbcmnlkdjaaDoorIndex
import Derived.Test.YtfigpbcmnlkdjaaDoorPureL
namespace Go.Proofs.YtfigpbcmnlkdjaaDoor
open Go.RowKit

theorem bufferedR_any (ev : Evs) (w : World) (b bb br : Nat) (st : Rd) (h : RdAt ev w b bb br st) (ok : st.Ok) (n : Nat) (hn : st.avail = n) :
    Calls Tryd.prog 32 #[.pointer (some ⟨b, 0, none⟩)] w fun e w' => e = .returned (.int .i64 n) ∧ New w w' := by
  have c2 : w.cell? ⟨b, 2, none⟩ = some (.int .i64 st.r) := cell_of h.rd rfl
  have c3 : w.cell? ⟨b, 3, none⟩ = some (.int .i64 st.buf.length) := cell_of h.rd rfl
  have h1 := ok.r
  have h2 := ok.w
  have h3 := ok.size
  have hs : (st.buf.length : Int) - st.r = n := by unfold Rd.avail at hn; omega
  have hw : IntKind.i64.wrap ((st.buf.length : Int) - st.r) = n := by rw [hs]; exact IntWalk.i64_in _ (by unfold Rd.avail at hn; omega)
  clear h ok hn
  go_enter Tryd.func32, Tryd.ntmps32
  go_wp2
  go_region
  go_wp2
  go_ret
  exact ⟨by first | rfl | rw [hs], (Keep.refl _ _).drew⟩

theorem addr_off (b o n : Nat) : (⟨b, o, none⟩ : Addr).add n = ⟨b, o + n, none⟩ := by
  unfold Addr.add; split <;> simp_all

/-- The values of the errors of ReadSlice. -/
def erV (a0 a1 : Addr) (e : Er) : Value := if e = erEnds then .iface 93 (.pointer (some a0)) else if e = erFull then .iface 93 (.pointer (some a1)) else .nilIface

/-- The bytes that wait in the buffer, as a cut of it. -/
theorem RdAt.rest_at {ev : Evs} {w : World} {b bb br : Nat} {st : Rd} (h : RdAt ev w b bb br st) (ok : st.Ok) (lo hi : Nat) (h1 : st.r ≤ lo) (h2 : lo ≤ hi) (h3 : hi ≤ st.buf.length) (x : List UInt8) (hx : x = (st.rest.drop (lo - st.r)).take (hi - lo)) :
    CellsAt w ⟨bb, lo, none⟩ (bytesV x) ∧ x.length = hi - lo := by
  obtain ⟨_, _, _, _, ⟨cs, hbf, hcs, hct⟩, _⟩ := h
  have hl : x.length = hi - lo := by rw [hx]; unfold Rd.rest; simp; omega
  refine ⟨cells_of_block (cur := cs.toList) (by rw [hbf]) lo _ ?_, hl⟩
  rw [bytesV_length, hl]
  have e1 : bytesV x = ((bytesV st.buf).drop lo).take (hi - lo) := by
    rw [hx]; unfold Rd.rest
    rw [List.drop_drop, show st.r + (lo - st.r) = lo by omega]
    simp [bytesV, List.map_take, List.map_drop]
  rw [e1, ← hct, List.drop_take, List.take_take, Nat.min_eq_left (by omega)]

section
variable {P : Program}
theorem slice_cut_at (t e : TypeId) (ht : P.underlying t = some (.slice e)) (hsz : (P.info? e).map (·.size) = some 1) (bb n c lo hi : Nat) (h1 : lo ≤ hi) (h2 : hi ≤ c) (k1 k2 : IntKind) :
    ∃ off, (∀ w, (Instr.slice t (.slice (some ⟨bb, 0, none⟩) n c) (some (.int k1 lo)) (some (.int k2 hi)) none).run P w = .ok (.slice (some ⟨bb, off, none⟩) (hi - lo) (c - lo)) w) ∧ (lo < c → off = lo) := by
  obtain ⟨a', h3, h4, h5⟩ := slice_cut (P := P) t e ht hsz (some ⟨bb, 0, none⟩) n c lo hi h1 h2 k1 k2
  by_cases hlt : lo < c
  · have e1 : a' = some ⟨bb, lo, none⟩ := by rw [h4 hlt]; simp [Addr.add]; omega
    exact ⟨lo, fun w => by rw [h3 w, e1], fun _ => rfl⟩
  · obtain rfl : lo = c := by omega
    obtain ⟨i, hi', hs⟩ := Option.map_eq_some_iff.1 hsz
    refine ⟨0, fun w => ?_, fun h => absurd h hlt⟩
    simp [Instr.slice, run_underlying ht, Instr.sliceBounds, Instr.sliceBound, asIntOf, sizeOf, typeInfo, hi', hs, h1, h2]
end

theorem RdAt.drew {ev : Evs} {w : World} {b bb br : Nat} {st : Rd} (h : RdAt ev w b bb br st) : RdAt ev w.drew b bb br st := h.new ((Keep.refl _ w).drew)
theorem RdAt.set0 {ev : Evs} {w : World} {b bb br : Nat} {st : Rd} (h : RdAt ev w b bb br st) (o : Nat) (v : Value) (st' : Rd) (hz : st'.size = st.size) (hb : st'.buf = st.buf) (hs : st'.src = st.src)
    (hc : (#[.slice (some ⟨bb, 0, none⟩) st.size st.size, .iface 50 (.pointer (some ⟨br, 0, none⟩)), .int .i64 st.r, .int .i64 st.buf.length, errV ev st.src st.err, .int .i64 st.lb, .int .i64 st.lr] : Array Value).setIfInBounds o v = #[.slice (some ⟨bb, 0, none⟩) st'.size st'.size, .iface 50 (.pointer (some ⟨br, 0, none⟩)), .int .i64 st'.r, .int .i64 st'.buf.length, errV ev st'.src st'.err, .int .i64 st'.lb, .int .i64 st'.lr]) :
    RdAt ev (w.setCell ⟨b, o, none⟩ v) b bb br st' := by
  obtain ⟨n1, n2, n3, hrd, ⟨cs, hbf, hcs, hct⟩, hsr⟩ := h
  have hk : Keep (fun i => i = b) w (w.setCell ⟨b, o, none⟩ v) := (Keep.refl _ w).set1 o _
  have hbn : ¬ bb = b := fun e => n1 e.symm
  refine ⟨n1, n2, n3, (heap_set hrd _).trans (by rw [hc]), ⟨cs, ?_, by rw [hz]; exact hcs, by rw [hb]; exact hct⟩, by rw [hs]; exact hsr.keep hk (fun e => n2 e.symm) (fun i _ e => .inl e)⟩
  rw [Below.heap_setCell _ _ _ _ hbn]; exact hbf
theorem RdAt.setR {ev : Evs} {w : World} {b bb br : Nat} {st : Rd} (h : RdAt ev w b bb br st) (r' : Nat) : RdAt ev (w.setCell ⟨b, 2, none⟩ (.int .i64 r')) b bb br { st with r := r' } :=
  h.set0 2 _ _ rfl rfl rfl (by simp)
theorem RdAt.setB {ev : Evs} {w : World} {b bb br : Nat} {st : Rd} (h : RdAt ev w b bb br st) (x : Int) : RdAt ev (w.setCell ⟨b, 5, none⟩ (.int .i64 x)) b bb br { st with lb := x } :=
  h.set0 5 _ _ rfl rfl rfl (by simp)
theorem RdAt.setL {ev : Evs} {w : World} {b bb br : Nat} {st : Rd} (h : RdAt ev w b bb br st) (x : Int) : RdAt ev (w.setCell ⟨b, 6, none⟩ (.int .i64 x)) b bb br { st with lr := x } :=
  h.set0 6 _ _ rfl rfl rfl (by simp)

theorem bytes_at_cells {w : World} {bb off n c : Nat} {x : List UInt8} (h : CellsAt w ⟨bb, off, none⟩ (bytesV x)) (hx : x.length = n) (hc : n ≤ c) (hm : c ≤ maxLen) : BytesAt w (.slice (some ⟨bb, off, none⟩) n c) x := by
  refine ⟨some ⟨bb, off, none⟩, c, by rw [bytesV_length, hx], by rw [bytesV_length, hx]; exact hc, hm, (fun e => by cases e), fun ad e => ?_⟩
  cases e
  exact h

theorem bytes_keep_in {w w' : World} {b bb off n c : Nat} {x : List UInt8} (h : BytesAt w (.slice (some ⟨bb, off, none⟩) n c) x) (k : Keep (fun i => i = b) w w') (hn : ¬ bb = b) : BytesAt w' (.slice (some ⟨bb, off, none⟩) n c) x :=
  RowAt.keep h k (fun i hi e => by
    obtain ⟨ad', n', c', e1, e2, e3⟩ := hi
    simp only [Value.slice.injEq, Option.some.injEq] at e1
    obtain ⟨rfl, -, -⟩ := e1
    exact hn (by rw [← e, ← e3]))

def SlA (ev : Evs) (w : World) (b bb br : Nat) (d : UInt8) (st0 : Rd) (g : Nat) (vs : Value) (wr : World) : Prop :=
  ∃ (st : Rd) (s : Nat), st.Ok ∧ RdAt ev wr b bb br st ∧ st0.Like st ∧ Rd.fills (Rd.sliceGo d) st.more st = Rd.fills (Rd.sliceGo d) st0.more st0 ∧ vs = .int .i64 s ∧ s ≤ st.avail ∧ d ∉ st.rest.take s ∧ Keep (fun i => i = b ∨ i = bb ∨ i = br) w wr ∧ g = st.more

theorem fills_stop {go : Rd → Bool} {st : Rd} (h : go st = false) (k : Nat) : Rd.fills go k st = st := by
  cases k with
  | zero => rfl
  | succ k => unfold Rd.fills; rw [h]; rfl

theorem idxOf_le {d : UInt8} : ∀ {l : List UInt8} {k : Nat}, l[k]? = some d → l.idxOf d ≤ k
  | [], k, h => by simp at h
  | x :: l, k, h => by
    rw [List.idxOf_cons]
    cases hb : (x == d) with
    | true => exact Nat.zero_le _
    | false =>
      simp only [cond_false]
      cases k with
      | zero =>
        simp only [List.getElem?_cons_zero, Option.some.injEq] at h
        subst h
        simp at hb
      | succ k =>
        have := idxOf_le (l := l) (k := k) (by simpa using h)
        omega

theorem idxOf_skip {d : UInt8} {l : List UInt8} {s : Nat} (hs : s ≤ l.length) (h : d ∉ l.take s) (hm : d ∈ l.drop s) : d ∈ l ∧ l.idxOf d = s + (l.drop s).idxOf d := by
  refine ⟨List.mem_of_mem_drop hm, ?_⟩
  have hi := List.idxOf_lt_length_of_mem hm
  have hg := List.getElem_idxOf hi
  refine idxOf_first ?_ (fun k hk e => ?_)
  · have h2 : s + (l.drop s).idxOf d < l.length := by simp at hi; omega
    rw [List.getElem?_eq_getElem h2]
    simp only [List.getElem_drop] at hg
    rw [hg]
  · by_cases hks : k < s
    · apply h
      rw [List.mem_iff_getElem?]
      exact ⟨k, by rw [List.getElem?_take, if_pos hks]; exact e⟩
    · have h3 : (l.drop s)[k - s]? = some d := by rw [List.getElem?_drop, show s + (k - s) = k by omega]; exact e
      have h4 : (l.drop s).idxOf d ≤ k - s := idxOf_le h3
      omega

theorem readSlice_found {st0 st : Rd} {d : UInt8} (hF : Rd.fills (Rd.sliceGo d) st.more st = Rd.fills (Rd.sliceGo d) st0.more st0) (hm : d ∈ st.rest) :
    st0.readSlice d = ({ st with r := st.r + (st.rest.idxOf d + 1), lb := d.toNat, lr := -1 }, st.rest.take (st.rest.idxOf d + 1), erNone) := by
  have hc : st.rest.contains d = true := by simpa using hm
  have hgo : Rd.sliceGo d st = false := by unfold Rd.sliceGo; rw [hc]; rfl
  rw [fills_stop hgo] at hF
  have hi := List.idxOf_lt_length_of_mem hm
  have hl : (st.rest.take (st.rest.idxOf d + 1)).length = st.rest.idxOf d + 1 := by simp; omega
  unfold Rd.readSlice
  rw [← hF]
  simp only [hc, if_true, hl]

theorem readSlice_ended {st0 st : Rd} {d : UInt8} (hF : Rd.fills (Rd.sliceGo d) st.more st = Rd.fills (Rd.sliceGo d) st0.more st0) (hm : d ∉ st.rest) (he : st.err = true) :
    st0.readSlice d = ({ st with r := st.buf.length, err := false, lb := lastOf st.rest st.lb, lr := if st.avail = 0 then st.lr else -1 }, st.rest, erEnds) := by
  have hc : st.rest.contains d = false := by simpa using hm
  have hgo : Rd.sliceGo d st = false := by unfold Rd.sliceGo; rw [he]; simp
  rw [fills_stop hgo] at hF
  unfold Rd.readSlice
  rw [← hF]
  simp only [hc, he, if_true]
  rfl

theorem readSlice_whole {st0 st : Rd} {d : UInt8} (hF : Rd.fills (Rd.sliceGo d) st.more st = Rd.fills (Rd.sliceGo d) st0.more st0) (hm : d ∉ st.rest) (he : st.err = false) (ha : ¬ st.avail < st.size) :
    st0.readSlice d = ({ st with r := st.buf.length, lb := lastOf st.rest st.lb, lr := -1 }, st.rest, erFull) := by
  have hc : st.rest.contains d = false := by simpa using hm
  have hgo : Rd.sliceGo d st = false := by unfold Rd.sliceGo; simp [ha]
  rw [fills_stop hgo] at hF
  unfold Rd.readSlice
  rw [← hF]
  simp only [hc, he]
  rfl

theorem slice_more {st0 st : Rd} {d : UInt8} (ok : st.Ok) (hF : Rd.fills (Rd.sliceGo d) st.more st = Rd.fills (Rd.sliceGo d) st0.more st0) (hm : d ∉ st.rest) (he : st.err = false) (ha : st.avail < st.size) :
    Rd.fills (Rd.sliceGo d) st.fill.more st.fill = Rd.fills (Rd.sliceGo d) st0.more st0 ∧ st.fill.more < st.more ∧ st.fill.Ok ∧ st.avail ≤ st.fill.avail ∧ d ∉ st.fill.rest.take st.avail := by
  have hc : st.rest.contains d = false := by simpa using hm
  have hgo : Rd.sliceGo d st = true := by unfold Rd.sliceGo; rw [hc, he]; simp [ha]
  refine ⟨by rw [← hF, Rd.fills_step (Rd.sliceGo_modest d) ok hgo], Rd.fill_more ok ha he, Rd.fill_ok ok ha, by rw [Rd.fill_avail ok]; omega, ?_⟩
  have e1 : st.fill.rest = st.rest ++ st.src.bytes (st.size - st.avail) := by simp [Rd.fill, Rd.rest]
  rw [e1, List.take_append_of_le_length (by rw [Rd.rest_length]; exact Nat.le_refl _), List.take_of_length_le (by rw [Rd.rest_length]; exact Nat.le_refl _)]
  exact hm

set_option maxRecDepth 100000 in
set_option maxHeartbeats 4000000 in
theorem readSlice_any (ev : Evs) (w : World) (B0 : Nat) (ad : Nat → Addr) (hE : Errs w B0 ad) (hev : ev true = .iface 93 (.pointer (some (ad 0)))) (b bb br : Nat) (hB : B0 ≤ b ∧ B0 ≤ bb ∧ B0 ≤ br) (st0 : Rd) (h : RdAt ev w b bb br st0) (ok : st0.Ok) (d : UInt8)
    (he : st0.src.eof = true) (hdl : st0.src.data.length ≤ 140737488355328) (hcl : st0.src.cuts.length ≤ 140737488355328) (st' : Rd) (x : List UInt8) (er : Er) (hres : st0.readSlice d = (st', x, er)) :
    Calls Tryd.prog 20 #[.pointer (some ⟨b, 0, none⟩), .int .u8 (d.toNat : Int)] w fun e w' => ∃ a c, e = .returned (.tuple #[.slice a x.length c, erV (ad 0) (ad 1) er]) ∧
      BytesAt w' (.slice a x.length c) x ∧ RdAt ev w' b bb br st' ∧ Keep (fun i => i = b ∨ i = bb ∨ i = br) w w' := by
  have hdlt := d.toNat_lt
  have HI : Hid (SlA ev w b bb br d st0 st0.more (.int .i64 0) w) := ⟨st0, 0, ok, h, Rd.Like.refl _, rfl, rfl, Nat.zero_le _, by simp, Keep.refl _ _, rfl⟩
  have HE := Lib.hid hE
  have Hev := Lib.hid hev
  have Hres := Lib.hid hres
  obtain ⟨g0, hg0⟩ : ∃ g0, st0.more = g0 := ⟨_, rfl⟩
  rw [hg0] at HI
  clear h ok hE hev hres hg0
  go_enter Tryd.func20, Tryd.ntmps20
  go_wp2_with fail
  go_loopg [5, 6, 7] g0 (fun g v5 vs x7 wr => v5 = .nilIface ∧ SlA ev w b bb br d st0 g vs wr)
  case atStart => exact ⟨rfl, HI.out⟩
  case round =>
    obtain ⟨rfl, st, s, ok, hat, hlike, hfill, rfl, hsa, hno, hkw, rfl⟩ := hrel
    obtain ⟨n1, n2, n3, hrd, ⟨cs, hbf, hcs, hct⟩, hsr⟩ := id hat
    have hokr := ok.r
    have hokw := ok.w
    have hoks := ok.size
    obtain ⟨R, hR⟩ : ∃ R, st.r = R := ⟨_, rfl⟩
    obtain ⟨W, hW⟩ : ∃ W, st.buf.length = W := ⟨_, rfl⟩
    obtain ⟨Z, hZ⟩ : ∃ Z, st.size = Z := ⟨_, rfl⟩
    have hav : st.avail = W - R := by unfold Rd.avail; rw [hR, hW]
    rw [hR, hW] at hokr
    rw [hW, hZ] at hokw
    rw [hZ] at hoks
    rw [hR, hW, hZ] at hrd
    rw [hav] at hsa
    have c0 : wr.cell? ⟨b, 0, none⟩ = some (.slice (some ⟨bb, 0, none⟩) Z Z) := cell_of hrd rfl
    have c2 : wr.cell? ⟨b, 2, none⟩ = some (.int .i64 R) := cell_of hrd rfl
    have c3 : wr.cell? ⟨b, 3, none⟩ = some (.int .i64 W) := cell_of hrd rfl
    obtain ⟨off, hC, hoff⟩ := slice_cut_at (P := Tryd.prog) 23 5 Tryd.underlying23 sizeByte bb Z Z (R + s) W (by omega) hokw .i64 .i64
    rw [show ((R + s : Nat) : Int) = (R : Int) + s by omega, show W - (R + s) = W - R - s by omega, show Z - (R + s) = Z - R - s by omega] at hC
    obtain ⟨x1, hx1⟩ : ∃ x1, x1 = st.rest.drop s := ⟨_, rfl⟩
    have hrl : st.rest.length = W - R := by rw [Rd.rest_length, hav]
    have hx1l : x1.length = W - R - s := by rw [hx1, List.length_drop, hrl]
    have hcells : CellsAt wr ⟨bb, off, none⟩ (bytesV x1) := by
      by_cases hlo : R + s < Z
      · rw [hoff hlo]
        refine (hat.rest_at ok (R + s) W (by rw [hR]; omega) (by omega) (by rw [hW]; exact Nat.le_refl _) x1 ?_).1
        rw [hx1, hR, show R + s - R = s by omega, List.take_of_length_le (by rw [List.length_drop, hrl]; omega)]
      · have : x1 = [] := List.eq_nil_of_length_eq_zero (by omega)
        rw [this]
        intro j u hu
        simp [bytesV] at hu
    obtain ⟨ri, hri⟩ : ∃ ri : Int, ri = if d ∈ x1 then (x1.idxOf d : Int) else -1 := ⟨_, rfl⟩
    have Hri := Lib.hid hri
    have Hcells : Hid (CellsAt wr.drew ⟨bb, off, none⟩ (bytesV x1)) := hcells
    have Hx1l := Lib.hid hx1l
    have Hx1 := Lib.hid hx1
    have Hat := Lib.hid hat
    have Hok := Lib.hid ok
    have Hlike := Lib.hid hlike
    have Hfill := Lib.hid hfill
    have Hno := Lib.hid hno
    have Hkw := Lib.hid hkw
    have Hrd := Lib.hid hrd
    have HR := Lib.hid hR
    have HW := Lib.hid hW
    have HZ := Lib.hid hZ
    have Hav := Lib.hid hav
    have Hrl := Lib.hid hrl
    have hws : IntKind.i64.wrap ((R : Int) + s) = (R : Int) + s := IntWalk.i64_in _ (by omega)
    have i1 : (0 : Int) ≤ (R : Int) + s := by omega
    have i2 : (R : Int) + s ≤ W := by omega
    have i3 : (W : Int) ≤ Z := by omega
    have HS1 : Hid (wr.drew.cell? ⟨b, 0, none⟩ = some (.slice (some ⟨bb, 0, none⟩) Z Z) ∧ wr.drew.cell? ⟨b, 2, none⟩ = some (.int .i64 R) ∧ wr.drew.cell? ⟨b, 3, none⟩ = some (.int .i64 W)) := ⟨c0, c2, c3⟩
    clear hrd hbf hcs hct hsr hat hcells hx1l hx1 hri hlike hfill hno hkw ok hoff hrl hav
    go_wp2_with fail
    go_region_held3 (fun w' => w'.cell? ⟨b, 0, none⟩ = some (.slice (some ⟨bb, 0, none⟩) Z Z) ∧ w'.cell? ⟨b, 2, none⟩ = some (.int .i64 R) ∧ w'.cell? ⟨b, 3, none⟩ = some (.int .i64 W))
      (first | exact ⟨c0, c2, c3⟩ | exact HS1.out | (rw [← hw1]; exact HS1.out))
      (first | (go_at_call 30; refine (index_any _ bb off (W - R - s) (Z - R - s) x1 Hx1l.out Hcells.out d ri Hri.out).mono ?_; rintro e w1 ⟨rfl, hw1⟩))
    rename_i hh
    subst hw1
    clear hh hC hws
    have c4' : wr.cell? ⟨b, 4, none⟩ = some (errV ev st.src st.err) := cell_of Hat.out.rd rfl
    have heof : st.src.eof = true := Hlike.out.eof.trans he
    by_cases hm : d ∈ x1
    · obtain ⟨i, hi⟩ : ∃ i, x1.idxOf d = i := ⟨_, rfl⟩
      obtain rfl : ri = (i : Int) := by rw [Hri.out, if_pos hm, hi]
      have hil : i < W - R - s := by rw [← hi, ← Hx1l.out]; exact List.idxOf_lt_length_of_mem hm
      have hsk := idxOf_skip (l := st.rest) (s := s) (by rw [Hrl.out]; omega) Hno.out (by rw [← Hx1.out]; exact hm)
      obtain ⟨hmr, hix⟩ := hsk
      rw [← Hx1.out, hi] at hix
      obtain ⟨J, hJ⟩ : ∃ J, s + i = J := ⟨_, rfl⟩
      rw [hJ] at hix
      obtain ⟨L, hL⟩ : ∃ L, J + 1 = L := ⟨_, rfl⟩
      have hiJ : (i : Int) + s = (J : Int) := by omega
      have hwJ : IntKind.i64.wrap ((i : Int) + s) = (J : Int) := by rw [hiJ]; exact IntWalk.i64_in _ (by omega)
      obtain ⟨off2, hC2, hoff2⟩ := slice_cut_at (P := Tryd.prog) 23 5 Tryd.underlying23 sizeByte bb Z Z R (R + J + 1) (by omega) (by omega) .i64 .i64
      obtain rfl : off2 = R := hoff2 (by omega)
      rw [show ((off2 + J + 1 : Nat) : Int) = (off2 : Int) + J + 1 by omega, show off2 + J + 1 - off2 = L by omega] at hC2
      have hw1 : IntKind.i64.wrap ((off2 : Int) + J) = (off2 : Int) + J := IntWalk.i64_in _ (by omega)
      have hw2 : IntKind.i64.wrap ((off2 : Int) + J + 1) = (off2 : Int) + J + 1 := IntWalk.i64_in _ (by omega)
      have hxx := (Hat.out.rest_at Hok.out off2 (off2 + L) (by rw [HR.out]; exact Nat.le_refl _) (by omega) (by rw [HW.out]; omega) (st.rest.take L) (by rw [HR.out]; rw [show off2 - off2 = 0 by omega, show off2 + L - off2 = L by omega]; rfl))
      have hxl : (st.rest.take L).length = L := by rw [hxx.2]; omega
      have hJr : J < st.rest.length := by rw [Hrl.out]; omega
      have hJd : st.rest[J] = d := by
        have h9 := List.getElem_idxOf (List.idxOf_lt_length_of_mem hmr)
        simp only [hix] at h9
        exact h9
      have xq : wr.drew.cell? ⟨bb, off2 + J, none⟩ = some (.int .u8 (d.toNat : Int)) := by
        have := hxx.1 J (byteV d) (by unfold bytesV; rw [List.getElem?_map, List.getElem?_take, if_pos (by omega), List.getElem?_eq_getElem hJr, hJd]; rfl)
        rw [addr_off] at this
        exact this
      have x0 : wr.drew.cell? ⟨b, 0, none⟩ = some (.slice (some ⟨bb, 0, none⟩) Z Z) := c0
      have x2 : wr.drew.cell? ⟨b, 2, none⟩ = some (.int .i64 off2) := c2
      have x5 := cell_of (w := wr.drew) (o := 5) Hrd.out rfl
      have x6 := cell_of (w := wr.drew) (o := 6) Hrd.out rfl
      have y2 := frozen_of (w := wr.drew) (o := 2) Hrd.out
      have y5 := frozen_of (w := wr.drew) (o := 5) Hrd.out
      have y6 := frozen_of (w := wr.drew) (o := 6) Hrd.out
      have HrdD : Hid (wr.drew.heap[b]? = _) := Hrd.out
      have HatD : Hid (RdAt ev wr.drew b bb br st) := Hat.out.new ((Keep.refl _ wr).drew)
      have HkD : Hid (Keep (fun i => i = b ∨ i = bb ∨ i = br) w wr.drew) := Hkw.out.drew
      have HxD : Hid (CellsAt wr.drew ⟨bb, off2, none⟩ (bytesV (st.rest.take L))) := hxx.1
      have Hxl := Lib.hid hxl
      have hfin := (readSlice_found Hfill.out hmr).symm.trans Hres.out
      rw [hix, hL, HR.out] at hfin
      have Hfin := Lib.hid hfin
      have hL1 : (L : Int) - 1 = (J : Int) := by omega
      have hLJ : (J : Int) < L := by omega
      have hJ0 : (0 : Int) ≤ J := by omega
      have hJL : (J : Int) + 1 = L := by omega
      have hbn : ¬ bb = b := fun e => n1 e.symm
      have hnb : ¬ b = bb := n1
      have k1 : (0 : Int) ≤ off2 := by omega
      have k2 : (off2 : Int) ≤ (off2 : Int) + J + 1 := by omega
      have k3 : (off2 : Int) + J + 1 ≤ Z := by omega
      generalize wr.drew = w2 at xq x0 x2 x5 x6 y2 y5 y6 HrdD HatD HkD HxD ⊢
      clear hm hi hil hmr hix hJ hL hxx hxl hJr hJd hfin c0 c2 c3 c4' HS1 Hcells
      go_wp2
      go_region
      go_wp2
      go_ret2
      have hfin := Hfin.out
      simp only [Prod.mk.injEq] at hfin
      obtain ⟨rfl, rfl, rfl⟩ := hfin
      have hk4 : Keep (fun i => i = b) w2 (((w2.setCell ⟨b, 2, none⟩ (.int .i64 ((off2 : Int) + L))).setCell ⟨b, 5, none⟩ (.int .i64 (d.toNat : Int))).setCell ⟨b, 6, none⟩ (.int .i64 (-1))).drew := ((((Keep.refl _ w2).set1 2 _).set1 5 _).set1 6 _).drew
      have hrow : BytesAt w2 (.slice (some ⟨bb, off2, none⟩) (st.rest.take L).length (Z - off2)) (st.rest.take L) := bytes_at_cells HxD.out rfl (by rw [Hxl.out]; omega) (by unfold maxLen; omega)
      exact ⟨some ⟨bb, off2, none⟩, Z - off2, by rw [Hxl.out]; rfl, bytes_keep_in hrow hk4 hbn, (((HatD.out.setR (off2 + L)).setB d.toNat).setL (-1)).drew, HkD.out.trans hk4 (fun i _ e => .inl e)⟩
    · obtain rfl : ri = -1 := by rw [Hri.out, if_neg hm]
      have hmr : d ∉ st.rest := by
        intro hin
        rw [← List.take_append_drop s st.rest] at hin
        rcases List.mem_append.1 hin with h | h
        · exact Hno.out h
        · exact hm (by rw [Hx1.out]; exact h)
      have Hmr := Lib.hid hmr
      clear hm hmr
      cases herr : st.err with
      | true =>
        have Herr := Lib.hid herr
        have hxx := (Hat.out.rest_at Hok.out R W (by rw [HR.out]; exact Nat.le_refl _) hokr (by rw [HW.out]; exact Nat.le_refl _) st.rest (by rw [HR.out, show R - R = 0 by omega]; show st.rest = st.rest.take _; rw [List.take_of_length_le (by rw [Hrl.out]; exact Nat.le_refl _)]))
        obtain ⟨off2, hC2, hoff2⟩ := slice_cut_at (P := Tryd.prog) 23 5 Tryd.underlying23 sizeByte bb Z Z R W hokr hokw .i64 .i64
        obtain ⟨N, hN⟩ : ∃ N, W - R = N := ⟨_, rfl⟩
        rw [hN] at hC2
        have HN := Lib.hid hN
        have hNW : N ≤ W := by omega
        have hcl2 : CellsAt wr ⟨bb, off2, none⟩ (bytesV st.rest) := by
          by_cases hlo : R < Z
          · rw [hoff2 hlo]; exact hxx.1
          · have : st.rest = [] := List.eq_nil_of_length_eq_zero (by rw [Hrl.out]; omega)
            rw [this]
            intro j u hu
            simp [bytesV] at hu
        have c4 : wr.drew.cell? ⟨b, 4, none⟩ = some (.iface 93 (.pointer (some (ad 0)))) := by
          rw [← Hev.out]
          have h9 := c4'
          rw [herr] at h9
          simp only [errV, if_true, heof] at h9
          exact h9
        have x0 : wr.drew.cell? ⟨b, 0, none⟩ = some (.slice (some ⟨bb, 0, none⟩) Z Z) := c0
        have x2 : wr.drew.cell? ⟨b, 2, none⟩ = some (.int .i64 R) := c2
        have x3 : wr.drew.cell? ⟨b, 3, none⟩ = some (.int .i64 W) := c3
        have y2 := frozen_of (w := wr.drew) (o := 2) Hrd.out
        have HrdD : Hid (wr.drew.heap[b]? = _) := Hrd.out
        have HatD : Hid (RdAt ev wr.drew b bb br st) := Hat.out.new ((Keep.refl _ wr).drew)
        have HkD : Hid (Keep (fun i => i = b ∨ i = bb ∨ i = br) w wr.drew) := Hkw.out.drew
        have HxD : Hid (CellsAt wr.drew ⟨bb, off2, none⟩ (bytesV st.rest)) := hcl2
        have Hfin := Lib.hid ((readSlice_ended Hfill.out Hmr.out Herr.out).symm.trans Hres.out)
        have k1 : (0 : Int) ≤ R := by omega
        have k2 : (R : Int) ≤ W := by omega
        have k3 : (W : Int) ≤ Z := by omega
        generalize wr.drew = w2 at c4 x0 x2 x3 y2 HrdD HatD HkD HxD ⊢
        clear herr hxx hoff2 hcl2 c0 c2 c3 c4' HS1 Hcells hN
        go_wp2_with fail
        go_region
        go_wp2_with fail
        have hk1 : Keep (fun i => i = b) w2 (w2.setCell ⟨b, 2, none⟩ (.int .i64 W)).drew := ((Keep.refl _ w2).set1 2 _).drew
        refine (readErr_any ev _ b bb br _ (HatD.out.setR W).drew).mono ?_
        rintro e w3 ⟨rfl, hat3, hk3⟩
        rw [show errV ev ({ st with r := W } : Rd).src ({ st with r := W } : Rd).err = .iface 93 (.pointer (some (ad 0))) by
          rw [← Hev.out]
          show errV ev st.src st.err = _
          unfold errV
          rw [Herr.out, heof]
          rfl]
        have hk13 : Keep (fun i => i = b) w2 w3 := hk1.trans hk3 (fun _ _ e => e)
        have hxl : st.rest.length = N := by rw [Hrl.out, HN.out]
        have hrow2 : BytesAt w2 (.slice (some ⟨bb, off2, none⟩) N (Z - R)) st.rest := bytes_at_cells HxD.out hxl (by have := HN.out; omega) (by unfold maxLen; omega)
        have hrow3 := bytes_keep_in hrow2 hk13 (fun e => n1 e.symm)
        have hfin := Hfin.out
        simp only [Prod.mk.injEq] at hfin
        obtain ⟨rfl, rfl, rfl⟩ := hfin
        have Hk3 : Hid (Keep (fun i => i = b ∨ i = bb ∨ i = br) w w3) := HkD.out.trans hk13 (fun i _ e => .inl e)
        have Hrow := Lib.hid hrow3
        have Hxl := Lib.hid hxl
        by_cases hN0 : N = 0
        · subst hN0
          have he0 : st.rest = [] := List.eq_nil_of_length_eq_zero hxl
          have hend : RdAt ev w3 b bb br ⟨st.src, st.size, st.buf, W, false, st.lb, st.lr⟩ := hat3
          rw [HZ.out] at hend
          have Hend := Lib.hid hend
          have hav0 : st.avail = 0 := by rw [Hav.out, HN.out]
          have Hla : Hid (lastOf st.rest st.lb = st.lb) := by show _ = _; rw [he0]; rfl
          clear hat3 hk3 hk13 hk1 hrow2 hrow3 hxl c4 x0 x2 x3 y2 hC2 he0 hend
          go_wp2
          go_ret2
          try rw [HW.out]
          rw [Hla.out]
          exact ⟨some ⟨bb, off2, none⟩, Z - R, by rw [Hxl.out]; rfl, by rw [Hxl.out]; exact Hrow.out, Hend.out, Hk3.out⟩
        · obtain ⟨q, hq⟩ : ∃ q, N = q + 1 := ⟨N - 1, by omega⟩
          have hq1 : (N : Int) - 1 = (q : Int) := by omega
          have hqd : q < st.rest.length := by rw [hxl]; omega
          obtain ⟨u, hu⟩ : ∃ u : UInt8, u = st.rest[q] := ⟨_, rfl⟩
          have xq : w3.cell? ⟨bb, off2 + q, none⟩ = some (.int .u8 (u.toNat : Int)) := by
            obtain ⟨_, _, _, r4⟩ := RowAt.parts hrow3
            have := r4 _ rfl q (byteV u) (by unfold bytesV; rw [List.getElem?_map, List.getElem?_eq_getElem hqd, ← hu]; rfl)
            rw [addr_off] at this
            exact this
          have hlast : lastOf st.rest st.lb = (u.toNat : Int) := by
            unfold lastOf
            rw [List.getLast?_eq_getElem?, hxl, show N - 1 = q by omega, List.getElem?_eq_getElem hqd, ← hu]
          have x5 := cell_of (o := 5) hat3.rd rfl
          have x6 := cell_of (o := 6) hat3.rd rfl
          have y5 : w3.frozen? ⟨b, 5, none⟩ = false := frozen_of hat3.rd
          have y6 : w3.frozen? ⟨b, 6, none⟩ = false := frozen_of hat3.rd
          have hub := u.toNat_lt
          have hqp : (q : Int) < N := by omega
          have hq0 : (0 : Int) ≤ q := by omega
          have Hat3 := Lib.hid hat3
          have Hlast := Lib.hid hlast
          have hav0 : ¬ st.avail = 0 := by rw [Hav.out, HN.out]; exact hN0
          have Hav0 := Lib.hid hav0
          have hbn : ¬ bb = b := fun e => n1 e.symm
          clear hat3 hk3 hk13 hk1 hrow2 hrow3 hxl c4 x0 x2 x3 y2 hC2 hu hqd hlast hq
          go_wp2
          go_ret2
          try rw [HW.out]
          try rw [Hlast.out]
          try rw [if_neg Hav0.out]
          have h9 : RdAt ev w3 b bb br ⟨st.src, st.size, st.buf, W, false, st.lb, st.lr⟩ := Hat3.out
          rw [HZ.out] at h9
          have hk4 : Keep (fun i => i = b) w3 ((w3.setCell ⟨b, 5, none⟩ (.int .i64 (u.toNat : Int))).setCell ⟨b, 6, none⟩ (.int .i64 (-1))) := (((Keep.refl _ w3).set1 5 _).set1 6 _)
          exact ⟨some ⟨bb, off2, none⟩, Z - R, by rw [Hxl.out]; rfl, by rw [Hxl.out]; exact bytes_keep_in Hrow.out hk4 hbn, (h9.setB u.toNat).setL (-1), Hk3.out.trans hk4 (fun i _ e => .inl e)⟩
      | false =>
        have c4 : wr.cell? ⟨b, 4, none⟩ = some .nilIface := by rw [c4', herr]; rfl
        have Herr := Lib.hid herr
        have HSn := Lib.hid (fun (w' : World) (h : New wr.drew.drew w') => (show w'.cell? ⟨b, 0, none⟩ = some (.slice (some ⟨bb, 0, none⟩) Z Z) from New.cellAt h c0))
        have c5 : wr.drew.cell? ⟨b, 4, none⟩ = some .nilIface := c4
        obtain ⟨A, hA⟩ : ∃ A, st.avail = A := ⟨_, rfl⟩
        have hAW : A = W - R := by rw [← hA, Hav.out]
        have HA := Lib.hid hA
        have HAt : Hid (RdAt ev wr.drew.drew b bb br st) := Hat.out.new (((Keep.refl _ wr).drew).drew)
        clear c4' herr hA
        by_cases hfull : Z ≤ A
        · obtain rfl : R = 0 := by omega
          obtain rfl : W = Z := by omega
          obtain rfl : A = W := by omega
          clear hfull hAW
          go_wp2_with fail
          go_region_held3 (fun w' => w'.cell? ⟨b, 0, none⟩ = some (.slice (some ⟨bb, 0, none⟩) A A))
            (first | exact c0 | exact HSn.out _ hn2)
            (first | (go_at_call 32; refine (bufferedR_any ev _ b bb br st HAt.out Hok.out A HA.out).mono ?_; rintro e w2 ⟨rfl, hn2⟩))
          rename_i hh
          have hnw : New wr w2 := ((Keep.refl _ wr).drew).drew.then hn2
          have hat2 := Hat.out.new hnw
          have hrd2 := (hnw.block b (Array.getElem?_eq_some_iff.1 Hrd.out).1 (fun f => f)).trans Hrd.out
          have hE2 := HE.out.keep (Hkw.out.then hnw) (fun i hi e => by rcases e with e | e | e <;> omega)
          have x0 : w2.cell? ⟨b, 0, none⟩ = some (.slice (some ⟨bb, 0, none⟩) A A) := cell_of hrd2 rfl
          have x2 : w2.cell? ⟨b, 2, none⟩ = some (.int .i64 0) := (cell_of hrd2 rfl)
          have x3 : w2.cell? ⟨b, 3, none⟩ = some (.int .i64 A) := cell_of hrd2 rfl
          have x5 := cell_of (o := 5) hrd2 rfl
          have x6 := cell_of (o := 6) hrd2 rfl
          have y2 : w2.frozen? ⟨b, 2, none⟩ = false := frozen_of hrd2
          have y5 : w2.frozen? ⟨b, 5, none⟩ = false := frozen_of hrd2
          have y6 : w2.frozen? ⟨b, 6, none⟩ = false := frozen_of hrd2
          have xg := hE2.e1.cell
          have hgb := hE2.e1.lt
          have hng : ¬ 0 = b := by omega
          have hng2 : ¬ b = 0 := by omega
          have hcl2 := (hat2.rest_at Hok.out 0 A (by rw [HR.out]; exact Nat.le_refl _) (Nat.zero_le _) (by rw [HW.out]; exact Nat.le_refl _) st.rest (by rw [HR.out]; show st.rest = st.rest.take A; rw [List.take_of_length_le (by rw [Hrl.out]; omega)]))
          have hrl : st.rest.length = A := by rw [Hrl.out]; rfl
          have hrow : BytesAt w2 (.slice (some ⟨bb, 0, none⟩) A A) st.rest := by
            refine ⟨some ⟨bb, 0, none⟩, A, by rw [bytesV_length, hrl], by rw [bytesV_length, hrl]; exact Nat.le_refl _, by unfold maxLen; omega, (fun e => by cases e), fun ad e => ?_⟩
            cases e
            exact hcl2.1
          obtain ⟨q, hq⟩ : ∃ q, A = q + 1 := ⟨A - 1, by omega⟩
          have hq1 : (A : Int) - 1 = (q : Int) := by omega
          have hqd : q < st.rest.length := by rw [hrl]; omega
          obtain ⟨u, hu⟩ : ∃ u : UInt8, u = st.rest[q] := ⟨_, rfl⟩
          have xq : w2.cell? ⟨bb, q, none⟩ = some (.int .u8 (u.toNat : Int)) := by
            have := hcl2.1 q (byteV u) (by unfold bytesV; rw [List.getElem?_map, List.getElem?_eq_getElem hqd, ← hu]; rfl)
            rw [addr0_add] at this
            exact this
          have hlast : lastOf st.rest st.lb = (u.toNat : Int) := by
            unfold lastOf
            rw [List.getLast?_eq_getElem?, hrl, show A - 1 = q by omega, List.getElem?_eq_getElem hqd, ← hu]
          have hub := u.toNat_lt
          have hqp : (q : Int) < A := by omega
          have hq0 : (0 : Int) ≤ q := by omega
          have HRow := Lib.hid hrow
          have HNw := Lib.hid hnw
          have Hat2 := Lib.hid hat2
          have Hrd2 := Lib.hid hrd2
          have Hlast := Lib.hid hlast
          have Hrl2 := Lib.hid hrl
          have hbn : ¬ bb = b := fun e => n1 e.symm
          have hfin := (readSlice_whole Hfill.out Hmr.out Herr.out (by rw [HA.out, HZ.out]; omega)).symm.trans Hres.out
          have Hfin := Lib.hid hfin
          clear hh HSn hn2 hnw hat2 hrd2 hE2 hrow hu hqd hlast hrl hcl2 c0 c2 c3 c4 c5 hq hfin
          go_wp2
          go_ret2
          have hfin := Hfin.out
          simp only [Prod.mk.injEq] at hfin
          obtain ⟨rfl, rfl, rfl⟩ := hfin
          have hk4 : Keep (fun i => i = b) w2 (((w2.setCell ⟨b, 2, none⟩ (.int .i64 A)).setCell ⟨b, 5, none⟩ (.int .i64 (u.toNat : Int))).setCell ⟨b, 6, none⟩ (.int .i64 (-1))) := (((Keep.refl _ w2).set1 2 _).set1 5 _).set1 6 _
          obtain ⟨m1, m2, m3, -, ⟨cs2, hbf2, hcs2, hct2⟩, hsr2⟩ := Hat2.out
          refine ⟨some ⟨bb, 0, none⟩, A, by rw [Hrl2.out]; rfl, ?_, ⟨m1, m2, m3, (heap_set (heap_set (heap_set Hrd2.out _) _) _).trans ?_, ⟨cs2, ?_, hcs2, hct2⟩, hsr2.keep hk4 (fun e => m2 e.symm) (fun i _ e => .inl e)⟩, (Hkw.out.then HNw.out).trans hk4 (fun i _ e => .inl e)⟩
          · rw [Hrl2.out]
            refine RowAt.keep HRow.out hk4 (fun i hi e => ?_)
            obtain ⟨ad', n', c', e1, e2, e3⟩ := hi
            simp only [Value.slice.injEq, Option.some.injEq] at e1
            obtain ⟨rfl, -, -⟩ := e1
            exact n1 (by rw [← e, ← e3])
          · simp [Hlast.out, HW.out, HZ.out]
          · rw [Below.heap_setCell _ _ _ _ hbn, Below.heap_setCell _ _ _ _ hbn, Below.heap_setCell _ _ _ _ hbn]; exact hbf2
        · have hge : ¬ (Z : Int) ≤ A := by omega
          go_wp2_with fail
          go_region_held3 (fun w' => w'.cell? ⟨b, 0, none⟩ = some (.slice (some ⟨bb, 0, none⟩) Z Z))
            (first | exact c0 | exact HSn.out _ hn2)
            (first | (go_at_call 32; refine (bufferedR_any ev _ b bb br st HAt.out Hok.out A HA.out).mono ?_; rintro e w2 ⟨rfl, hn2⟩))
          rename_i hh
          have hnw : New wr w2 := ((Keep.refl _ wr).drew).drew.then hn2
          have x2 : w2.cell? ⟨b, 2, none⟩ = some (.int .i64 R) := New.cellAt hnw c2
          have x3 : w2.cell? ⟨b, 3, none⟩ = some (.int .i64 W) := New.cellAt hnw c3
          have HA2 : Hid (RdAt ev w2.drew b bb br st) := Hat.out.new hnw.drew
          have HNw := Lib.hid hnw
          have hsw : (W : Int) - R = A := by omega
          have hsw2 : IntKind.i64.wrap ((W : Int) - R) = (A : Int) := by rw [hsw]; exact IntWalk.i64_in _ (by omega)
          have hEx := (HE.out.keep (Hkw.out.then hnw.drew) (fun i hi e => by rcases e with e | e | e <;> omega))
          have hgl := hEx.e0.lt
          have HEx := Lib.hid hEx.e0.cell
          have Hmo := Lib.hid (slice_more Hok.out Hfill.out Hmr.out Herr.out (by rw [HA.out, HZ.out]; omega))
          clear hh HSn hn2 hnw c0 c2 c3 c4 c5 hEx
          go_wp2
          go_region
          go_wp2_with fail
          refine (fill_any _ b bb br st (ad 0) ev Hev.out HA2.out Hok.out Herr.out (by rw [HZ.out]; omega) (by rw [HA.out, HZ.out]; omega) (by rw [Hlike.out.data]; exact hdl) (by rw [Hlike.out.cuts]; exact hcl) heof HEx.out (by omega) (by omega) (by omega)).mono ?_
          rintro e w5 ⟨rfl, ha', hk5⟩
          obtain ⟨f1, f2, f3, f4, f5⟩ := Hmo.out
          rw [HA.out] at f4 f5
          have H5 : Hid (SlA ev w b bb br d st0 st.fill.more (.int .i64 A) w5) := ⟨st.fill, A, f3, ha', Hlike.out.trans (Rd.fill_like st), f1, rfl, f4, f5, (Hkw.out.then (HNw.out.drew)).trans hk5 (fun _ _ e => e), rfl⟩
          have Hf2 := Lib.hid f2
          clear ha' hk5 f1 f2 f3 f4 f5
          go_wp2
          go_roundg st.fill.more
          case measure => exact Hf2.out
          case rel =>
            have h9 := H5.out
            rw [hAW] at h9
            refine ⟨rfl, ?_⟩
            first | exact h9 | exact H5.out
end Go.Proofs.YtfigpbcmnlkdjaaDoor
