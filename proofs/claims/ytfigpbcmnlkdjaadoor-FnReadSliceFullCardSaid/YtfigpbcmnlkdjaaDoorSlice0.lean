/-
  The walks of IndexByte and ReadSlice, where the delimiter does not come within the buffer and the source does not come to its end.
-/
import Derived.Test.YtfigpbcmnlkdjaaDoorFill0
import Derived.Test.YtfigpbcmnlkdjaaDoorGlob
import Derived.Lib.BytesEntry
import Derived.Lib.IndexLaws
namespace Go.Proofs.YtfigpbcmnlkdjaaDoor
open Go.RowKit

set_option maxHeartbeats 1000000 in
theorem number_full (w : World) (B : Nat) (ad : Nat → Addr) (h : Errs w B ad) : Calls Tryd.prog 22 #[.iface 93 (.pointer (some (ad 1)))] w fun e w' => e = .returned (.int .i64 3) ∧ w = w' := by
  have c0 := h.e0.cell
  have c1 := h.e1.cell
  have q0 := eql_other h.e1 h.e0 (h.ne 1 0 (by omega) (by omega) (by omega))
  have q1 := eql_same w (ad 1)
  clear h
  go_enter Tryd.func22, Tryd.ntmps22
  go_wp2
  go_ret
  exact ⟨rfl, rfl⟩

theorem indexByte_absent (l : List UInt8) (d : UInt8) (h : d ∉ l) : Lib.indexByte l d = -1 := by
  have hge := Lib.indexByte_ge l d
  by_cases hn : Lib.indexByte l d = -1
  · exact hn
  · obtain ⟨o, ho⟩ := Int.eq_ofNat_of_zero_le (a := Lib.indexByte l d) (by omega)
    have := (Lib.indexByte_some ho).1
    exact absurd (List.mem_of_getElem? this) h

theorem bytesOf_ints (l : List UInt8) : Lib.bytesOf (l.map fun x => (x.toNat : Int)) = l := by
  unfold Lib.bytesOf
  rw [List.map_map]
  conv => rhs; rw [← List.map_id l]
  apply List.map_congr_left
  intro x _
  simp

theorem index_none (w : World) (bb off n c : Nat) (x : List UInt8) (hn : x.length = n) (hc : CellsAt w ⟨bb, off, none⟩ (bytesV x)) (d : UInt8) (hd : d ∉ x) :
    Calls Tryd.prog 30 #[.slice (some ⟨bb, off, none⟩) n c, .int .u8 (d.toNat : Int)] w fun e w' => e = .returned (.int .i64 (-1)) ∧ w = w' := by
  have hrun := Lib.run_indexByteSlice (P := Tryd.prog) w bb off n c (x.map fun y => (y.toNat : Int)) (by simp [hn]) (fun i hi => by
    have h1 := hc i (byteV (x[i]'(by omega))) (by simp [bytesV, hn, hi])
    rw [show (⟨bb, off, none⟩ : Addr).add i = ⟨bb, off + i, none⟩ by unfold Addr.add; split <;> simp_all] at h1
    rw [h1]
    simp [byteV, hn, hi]) (d.toNat : Int)
  rw [bytesOf_ints, show ((d.toNat : Int)).toNat.toUInt8 = d by simp, indexByte_absent x d hd] at hrun
  have hcall : (callFunc 39 #[.slice (some ⟨bb, off, none⟩) n c, .int .u8 (d.toNat : Int)]).run Tryd.prog w = .ok (.value (.int .i64 (-1))) w := by
    rw [run_callFunc_extern Tryd.func39 (by kernel_rfl) (by kernel_rfl) (by kernel_rfl) (show _ = some Extern.BytealgIndexByte.indexByte from by kernel_rfl), hrun]
    rfl
  clear hrun hc
  go_enter Tryd.func30, Tryd.ntmps30
  go_wp2
  go_ret
  exact ⟨rfl, rfl⟩

theorem bufferedR (w : World) (b n : Nat) (c3 : w.cell? ⟨b, 3, none⟩ = some (.int .i64 n)) (c2 : w.cell? ⟨b, 2, none⟩ = some (.int .i64 0)) (hn : n ≤ 32767) :
    Calls Tryd.prog 32 #[.pointer (some ⟨b, 0, none⟩)] w fun e w' => e = .returned (.int .i64 n) ∧ New w w' := by
  go_enter Tryd.func32, Tryd.ntmps32
  go_wp2
  go_region
  go_wp2
  go_ret
  exact ⟨by simp, (Keep.refl _ _).drew⟩

/-- A reader that has read nothing yet, and has the beginning of the data in its buffer. -/
structure Rd.Young (st : Rd) (data : List UInt8) (cuts : List Int) (size : Nat) : Prop where
  ok : st.src.Ok
  dat : st.src.data = data
  cut : st.src.cuts = cuts
  siz : st.size = size
  r : st.r = 0
  err : st.err = false
  buf : st.buf = data.take st.src.pos
  pos : st.src.pos ≤ size

theorem Rd.Young.got {st : Rd} {data : List UInt8} {cuts : List Int} {size k : Nat} (h : st.Young data cuts size) (hk : min (size - st.src.pos) st.src.left = k) (hk0 : 0 < k) (hd : size < data.length) : (st.got k).Young data cuts size ∧ (st.got k).src.pos = st.src.pos + k := by
  have hp : (st.src.adv k).pos = st.src.pos + k := Src.adv_pos _ _
  have h1 := h.pos
  refine ⟨⟨Src.adv_ok h.ok k (by omega) hk0, (Src.adv_data _ _).trans h.dat, (Src.adv_cuts _ _).trans h.cut, h.siz, h.r, h.err, ?_, ?_⟩, hp⟩
  · show st.buf ++ (st.src.data.drop st.src.pos).take k = data.take (st.src.adv k).pos
    rw [hp, h.buf, h.dat, List.take_add]
  · show (st.src.adv k).pos ≤ size
    rw [hp]; omega

theorem RdAt.new {ev : Evs} {w w' : World} {b bb br : Nat} {st : Rd} (h : RdAt ev w b bb br st) (k : New w w') : RdAt ev w' b bb br st := by
  obtain ⟨n1, n2, n3, hrd, ⟨cs, hbf, hcs, hct⟩, hsr⟩ := h
  exact ⟨n1, n2, n3, (k.block b (Array.getElem?_eq_some_iff.1 hrd).1 (fun f => f)).trans hrd, ⟨cs, (k.block bb (Array.getElem?_eq_some_iff.1 hbf).1 (fun f => f)).trans hbf, hcs, hct⟩, hsr.keep k (fun f => f) (fun _ _ f => f.elim)⟩

theorem fill_young (ev : Evs) (w : World) (b bb br : Nat) (st : Rd) (data : List UInt8) (cuts : List Int) (size : Nat) (h : RdAt ev w b bb br st) (hy : st.Young data cuts size) (hp : st.src.pos < size) (hs : size ≤ 32767) (hl : size < data.length) (hdl : data.length ≤ 140737488355328) (hcl : cuts.length ≤ 140737488355328) :
    Calls Tryd.prog 33 #[.pointer (some ⟨b, 0, none⟩)] w fun e w' => e = .returned (.tuple #[]) ∧ ∃ st' : Rd, RdAt ev w' b bb br st' ∧ st'.Young data cuts size ∧ st.src.pos < st'.src.pos ∧ Keep (fun i => i = b ∨ i = bb ∨ i = br) w w' := by
  have hbl : st.buf.length = st.src.pos := by rw [hy.buf]; simp; omega
  have hleft := hy.ok.some (by rw [hy.dat]; omega)
  obtain ⟨k, hk⟩ : ∃ k, min (size - st.src.pos) st.src.left = k := ⟨_, rfl⟩
  have hk0 : 0 < k := by omega
  obtain ⟨g1, g2⟩ := hy.got hk hk0 hl
  refine (fill_mid ev w b bb br st h hy.ok hy.r hy.err (by rw [hy.siz]; exact hs) (by rw [hy.siz, hbl]; exact hp) k (by rw [hy.siz, hbl]; exact hk) hk0 (by rw [hy.dat]; omega) (by rw [hy.dat]; exact hdl) (by rw [hy.cut]; exact hcl)).mono ?_
  rintro e w' ⟨h1, h2, h3⟩
  exact ⟨h1, _, h2, g1, by rw [g2]; omega, h3⟩

def SlInv (ev : Evs) (w : World) (b bb br : Nat) (data : List UInt8) (cuts : List Int) (size : Nat) (g : Nat) (vs : Value) (wr : World) : Prop :=
  ∃ (st : Rd) (s : Nat), st.Young data cuts size ∧ RdAt ev wr b bb br st ∧ vs = .int .i64 s ∧ s ≤ st.src.pos ∧ s < size ∧ Keep (fun i => i = b ∨ i = bb ∨ i = br) w wr ∧ g = size - st.src.pos

set_option maxRecDepth 100000 in
set_option maxHeartbeats 4000000 in
theorem readSlice_full (ev : Evs) (w : World) (B0 : Nat) (ad : Nat → Addr) (hE : Errs w B0 ad) (b bb br : Nat) (hB : B0 ≤ b ∧ B0 ≤ bb ∧ B0 ≤ br) (st : Rd) (data : List UInt8) (cuts : List Int) (size : Nat) (h : RdAt ev w b bb br st) (hy : st.Young data cuts size) (d : UInt8) (hd : d ∉ data.take size)
    (hs : 16 ≤ size ∧ size ≤ 32767) (hl : size < data.length) (hdl : data.length ≤ 140737488355328) (hcl : cuts.length ≤ 140737488355328) :
    Calls Tryd.prog 20 #[.pointer (some ⟨b, 0, none⟩), .int .u8 (d.toNat : Int)] w fun e w' => e = .returned (.tuple #[.slice (some ⟨bb, 0, none⟩) size size, .iface 93 (.pointer (some (ad 1)))]) ∧
      BytesAt w' (.slice (some ⟨bb, 0, none⟩) size size) (data.take size) ∧ Keep (fun i => i = b ∨ i = bb ∨ i = br) w w' := by
  have hdlt := d.toNat_lt
  have HI : Hid (SlInv ev w b bb br data cuts size (size - st.src.pos) (.int .i64 0) w) := ⟨st, 0, hy, h, rfl, Nat.zero_le _, by omega, Keep.refl _ _, rfl⟩
  have HE := Lib.hid hE
  have Hd := Lib.hid hd
  obtain ⟨g0, hg0⟩ : ∃ g0, size - st.src.pos = g0 := ⟨_, rfl⟩
  rw [hg0] at HI
  clear h hy hE hd hg0
  go_enter Tryd.func20, Tryd.ntmps20
  go_wp2_with fail
  go_loopg [6, 7] g0 (fun g vs x7 wr => SlInv ev w b bb br data cuts size g vs wr)
  case atStart => exact HI.out
  case round =>
    obtain ⟨st, s, hy, hat, rfl, hsp, hss, hkw, rfl⟩ := hrel
    have hyp := hy.pos
    have hbl : st.buf.length = st.src.pos := by rw [hy.buf]; simp; omega
    obtain ⟨n1, n2, n3, hrd, ⟨cs, hbf, hcs, hct⟩, hsr⟩ := id hat
    have hev : errV ev st.src st.err = .nilIface := by rw [hy.err]; rfl
    rw [hev, hy.r, hbl, hy.siz] at hrd
    rw [hbl, hy.buf] at hct
    rw [hy.siz] at hcs
    obtain ⟨p, hp⟩ : ∃ p, st.src.pos = p := ⟨_, rfl⟩
    rw [hp] at hrd hct hsp hyp
    have c0 : wr.cell? ⟨b, 0, none⟩ = some (.slice (some ⟨bb, 0, none⟩) size size) := cell_of hrd rfl
    have c2 : wr.cell? ⟨b, 2, none⟩ = some (.int .i64 0) := cell_of hrd rfl
    have c3 : wr.cell? ⟨b, 3, none⟩ = some (.int .i64 p) := cell_of hrd rfl
    have c4 : wr.cell? ⟨b, 4, none⟩ = some .nilIface := cell_of hrd rfl
    obtain ⟨a1, hC, hC1, _⟩ := slice_cut (P := Tryd.prog) 23 5 Tryd.underlying23 sizeByte (some ⟨bb, 0, none⟩) size size s p hsp hyp .i64 .i64
    have hC2 : a1 = some ⟨bb, s, none⟩ := by rw [hC1 (by omega)]; simp [Addr.add]; omega
    subst hC2
    have hxl : ((data.take p).drop s).length = p - s := by simp; omega
    have hcells : CellsAt wr ⟨bb, s, none⟩ (bytesV ((data.take p).drop s)) := by
      refine cells_of_block (cur := cs.toList) (by rw [hbf]) s _ ?_
      rw [bytesV_length, hxl]
      have e1 : bytesV ((data.take p).drop s) = (bytesV (data.take p)).drop s := by simp [bytesV]
      rw [e1, ← hct, List.drop_take]
    have hdx : d ∉ (data.take p).drop s := fun hm => Hd.out (by
      have := List.mem_of_mem_drop hm
      exact List.mem_of_mem_take (i := p) (by rw [List.take_take, Nat.min_eq_left hyp]; exact this))
    have Hcells : Hid (CellsAt wr.drew ⟨bb, s, none⟩ (bytesV ((data.take p).drop s))) := hcells
    have Hxl := Lib.hid hxl
    have Hdx := Lib.hid hdx
    have Hrd := Lib.hid hrd
    have Hbf := Lib.hid hbf
    have Hcs := Lib.hid hcs
    have Hct := Lib.hid hct
    have Hat := Lib.hid hat
    have Hy := Lib.hid hy
    have Hkw := Lib.hid hkw
    have Hp := Lib.hid hp
    have hz0 : (0 : Int) ≤ s := by omega
    have hsp' : (s : Int) ≤ p := by omega
    have hws : IntKind.i64.wrap (s : Int) = s := IntWalk.i64_in _ (by omega)
    have hws0 : IntKind.i64.wrap ((0 : Int) + s) = s := by rw [Int.zero_add]; exact hws
    have hps : (p : Int) ≤ size := by omega
    have HS1 : Hid (wr.drew.cell? ⟨b, 0, none⟩ = some (.slice (some ⟨bb, 0, none⟩) size size) ∧ wr.drew.cell? ⟨b, 2, none⟩ = some (.int .i64 0) ∧ wr.drew.cell? ⟨b, 3, none⟩ = some (.int .i64 p)) := ⟨c0, c2, c3⟩
    clear hrd hbf hcs hct hat hy hkw hcells hxl hdx hsr hev hC1 hbl hp
    go_wp2_with fail
    go_region_held3 (fun w' => w'.cell? ⟨b, 0, none⟩ = some (.slice (some ⟨bb, 0, none⟩) size size) ∧ w'.cell? ⟨b, 2, none⟩ = some (.int .i64 0) ∧ w'.cell? ⟨b, 3, none⟩ = some (.int .i64 p))
      (first | exact ⟨c0, c2, c3⟩ | exact HS1.out | (rw [← hw1]; exact HS1.out))
      (first | (go_at_call 30; refine (index_none _ bb s (p - s) (size - s) ((data.take p).drop s) Hxl.out Hcells.out d Hdx.out).mono ?_; rintro e w1 ⟨rfl, hw1⟩))
    rename_i hh
    subst hw1
    clear hh
    have c5 : wr.drew.cell? ⟨b, 4, none⟩ = some .nilIface := c4
    have HB : Hid (wr.drew.cell? ⟨b, 3, none⟩ = some (.int .i64 p)) := c3
    have Hc0 : Hid (wr.drew.drew.cell? ⟨b, 0, none⟩ = some (.slice (some ⟨bb, 0, none⟩) size size)) := c0
    have Hc2 : Hid (wr.drew.drew.cell? ⟨b, 2, none⟩ = some (.int .i64 0)) := c2
    have Hc3 : Hid (wr.drew.drew.cell? ⟨b, 3, none⟩ = some (.int .i64 p)) := c3
    have HSn := Lib.hid (fun (w' : World) (h : New wr.drew.drew w') => (show w'.cell? ⟨b, 0, none⟩ = some (.slice (some ⟨bb, 0, none⟩) size size) from New.cellAt h c0))
    have hp3 : p ≤ 32767 := by omega
    by_cases hfull : p = size
    · subst hfull
      clear hC HS1
      go_wp2_with fail
      go_region_held3 (fun w' => w'.cell? ⟨b, 0, none⟩ = some (.slice (some ⟨bb, 0, none⟩) p p))
        (first | exact c0 | exact HSn.out _ hn2)
        (first | (go_at_call 32; refine (bufferedR _ b p Hc3.out Hc2.out hp3).mono ?_; rintro e w2 ⟨rfl, hn2⟩))
      rename_i hh
      have hnw : New wr w2 := ((Keep.refl _ wr).drew).drew.then hn2
      have hrd2 := (hnw.block b (Array.getElem?_eq_some_iff.1 Hrd.out).1 (fun f => f)).trans Hrd.out
      have hbf2 := (hnw.block bb (Array.getElem?_eq_some_iff.1 Hbf.out).1 (fun f => f)).trans Hbf.out
      have hE2 := HE.out.keep (Hkw.out.then hnw) (fun i hi e => by rcases e with e | e | e <;> omega)
      have x0 : w2.cell? ⟨b, 0, none⟩ = some (.slice (some ⟨bb, 0, none⟩) p p) := cell_of hrd2 rfl
      have x2 : w2.cell? ⟨b, 2, none⟩ = some (.int .i64 0) := cell_of hrd2 rfl
      have x3 : w2.cell? ⟨b, 3, none⟩ = some (.int .i64 p) := cell_of hrd2 rfl
      have x5 := cell_of (o := 5) hrd2 rfl
      have x6 := cell_of (o := 6) hrd2 rfl
      have y2 : w2.frozen? ⟨b, 2, none⟩ = false := frozen_of hrd2
      have y5 : w2.frozen? ⟨b, 5, none⟩ = false := frozen_of hrd2
      have y6 : w2.frozen? ⟨b, 6, none⟩ = false := frozen_of hrd2
      have xg := hE2.e1.cell
      have hgb := hE2.e1.lt
      have hng : ¬ 0 = b := by omega
      have hng2 : ¬ b = 0 := by omega
      have hrow : BytesAt w2 (.slice (some ⟨bb, 0, none⟩) p p) (data.take p) := by
        refine ⟨some ⟨bb, 0, none⟩, p, by rw [bytesV_length]; simp; omega, by rw [bytesV_length]; simp; omega, by unfold maxLen; omega, (fun e => by cases e), fun ad e => ?_⟩
        cases e
        refine cells_of_block (cur := cs.toList) (by rw [hbf2]) 0 _ ?_
        rw [bytesV_length, show (data.take p).length = p by simp; omega]
        exact Hct.out
      obtain ⟨q, hq⟩ : ∃ q, p = q + 1 := ⟨p - 1, by omega⟩
      have hq1 : (p : Int) - 1 = (q : Int) := by omega
      have hqd : q < (data.take p).length := by simp; omega
      obtain ⟨u, hu⟩ : ∃ u : UInt8, u = (data.take p)[q] := ⟨_, rfl⟩
      have xq : w2.cell? ⟨bb, q, none⟩ = some (.int .u8 (u.toNat : Int)) := by
        obtain ⟨_, _, _, r4⟩ := RowAt.parts hrow
        have := r4 _ rfl q (byteV u) (by unfold bytesV; rw [List.getElem?_map, List.getElem?_eq_getElem hqd, ← hu]; rfl)
        rw [show (⟨bb, 0, none⟩ : Addr).add q = ⟨bb, q, none⟩ from addr0_add bb q] at this
        exact this
      have hub := u.toNat_lt
      have hqp : (q : Int) < p := by omega
      have hq0 : (0 : Int) ≤ q := by omega
      have hwr1 : IntKind.i64.wrap ((p : Int) - 1) = (q : Int) := by rw [hq1]; exact IntWalk.i64_in _ (by omega)
      have HRow := Lib.hid hrow
      have HNw := Lib.hid hnw
      have hbn : ¬ bb = b := fun e => n1 e.symm
      have Hq := Lib.hid hq
      clear hh HSn hn2 hnw hrd2 hbf2 hE2 hrow hu hqd Hc0 Hc2 Hc3 c0 c2 c3 c4 c5 HB hq
      go_wp2
      go_ret2
      have hk4 : Keep (fun i => i = b) w2 (((w2.setCell ⟨b, 2, none⟩ (.int .i64 p)).setCell ⟨b, 5, none⟩ (.int .i64 (u.toNat : Int))).setCell ⟨b, 6, none⟩ (.int .i64 (-1))) := (((Keep.refl _ w2).set1 2 _).set1 5 _).set1 6 _
      refine ⟨rfl, RowAt.keep HRow.out hk4 (fun i hi e => ?_), (Hkw.out.then HNw.out).trans hk4 (fun i _ e => .inl e)⟩
      have h9 := inBlock_own hi
      obtain ⟨ad', n', c', e1, e2, e3⟩ := hi
      simp only [Value.slice.injEq, Option.some.injEq] at e1
      obtain ⟨rfl, -, -⟩ := e1
      exact n1 (by rw [← e, ← e3])
    · have hge : ¬ (size : Int) ≤ p := by omega
      clear hC HS1
      go_wp2_with fail
      go_region_held3 (fun w' => w'.cell? ⟨b, 0, none⟩ = some (.slice (some ⟨bb, 0, none⟩) size size))
        (first | exact c0 | exact HSn.out _ hn2)
        (first | (go_at_call 32; refine (bufferedR _ b p Hc3.out Hc2.out hp3).mono ?_; rintro e w2 ⟨rfl, hn2⟩))
      rename_i hh
      have hnw : New wr w2 := ((Keep.refl _ wr).drew).drew.then hn2
      have x2 : w2.cell? ⟨b, 2, none⟩ = some (.int .i64 0) := New.cellAt hnw c2
      have x3 : w2.cell? ⟨b, 3, none⟩ = some (.int .i64 p) := New.cellAt hnw c3
      have HA2 : Hid (RdAt ev w2.drew b bb br st) := Hat.out.new hnw.drew
      have HNw := Lib.hid hnw
      have hsw : IntKind.i64.wrap ((p : Int) - 0) = (p : Int) := by rw [Int.sub_zero]; exact IntWalk.i64_in _ (by omega)
      clear hh HSn hn2 hnw Hc0 Hc2 Hc3 c0 c2 c3 c4 c5 HB
      go_wp2
      go_region
      go_wp2_with fail
      refine (fill_young ev _ b bb br st data cuts size HA2.out Hy.out (by rw [Hp.out]; omega) hs.2 hl hdl hcl).mono ?_
      rintro e w5 ⟨rfl, st', ha', hy', hpp, hk5⟩
      rw [Hp.out] at hpp
      have H5 : Hid (SlInv ev w b bb br data cuts size (size - st'.src.pos) (.int .i64 p) w5) := ⟨st', p, hy', ha', rfl, by omega, by omega, (Hkw.out.then (HNw.out.drew)).trans hk5 (fun _ _ e => e), rfl⟩
      have hpos' := hy'.pos
      obtain ⟨p', hp'⟩ : ∃ p', st'.src.pos = p' := ⟨_, rfl⟩
      rw [hp'] at hpp H5 hpos'
      clear ha' hy' hk5 hp'
      go_wp2
      go_roundg (size - p')
      case measure => rw [Hp.out]; omega
      case rel => exact H5.out
end Go.Proofs.YtfigpbcmnlkdjaaDoor
