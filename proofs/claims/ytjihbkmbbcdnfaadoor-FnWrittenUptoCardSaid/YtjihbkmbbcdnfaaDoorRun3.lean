/-
  The walk of the thin package's write, the other kinds, and all joined.
-/
import Derived.Test.YtjihbkmbbcdnfaaDoorRun2
namespace Go.Proofs.YtjihbkmbbcdnfaaDoor
open Go.RowKit

set_option maxRecDepth 100000 in
set_option maxHeartbeats 1000000 in
theorem write_k0 (w : World) (B0 : Nat) (ad : Nat → Addr) (hE : Errs w B0 ad) (b bb cb ob b2 : Nat) (cg og : Value) (st : Wr) (so : Snk) (snd : Bool) (B : Nat) (hB0 : B0 ≤ B) (h : TwoAt (ad 7) w b bb cb ob cg og st so B)
    (c : CallR) (bv : Value) (hbv : BytesAt w bv c.bytes) (hc : c.kind = 0) (hf : st.Fits) (hl : st.snk.got.length + st.buf.length + c.bytes.length + 4 ≤ 140737488355328) :
    Calls Tryd.prog 41 #[.pointer (some ⟨b, 0, none⟩), .pointer (some ⟨b2, 0, none⟩), .agg (callA c bv)] w (WDone (ad 7) w b bb cb ob cg og ⟨st, so, snd⟩ c B) := by
  have hn2 := wr2_new w c bv
  have h6 := wr2_out w c bv
  have hT := h.new hn2
  have hE2 := hE.keep hn2 (fun _ _ f => f)
  have hgl : 7 < B := by have := hE.e7.lt; omega
  have hbl := h.wr.blocks
  have hgs0 : ∀ i, cg.ownBlock = some i ∨ og.ownBlock = some i → i < w.heap.size := fun i hi => by
    rcases hi with hi | hi
    · exact (h.wr.sk.own.lt i hi).2
    · exact (h.sk.own.lt i hi).2
  have hsz2 : (wr2 w c bv).heap.size = w.heap.size + 2 := by simp [wr2]
  have HT := Lib.hid hT
  have HE := Lib.hid hE2
  have HN2 := Lib.hid hn2
  have H6 := Lib.hid h6
  have HBl := Lib.hid hbl
  have Hc := Lib.hid hc
  have HTo := Lib.hid h
  have HGs := Lib.hid hgs0
  have Hsz2 := Lib.hid hsz2
  have HBv := Lib.hid (hbv.new hn2)
  clear h hT hE hE2 hn2 h6 hbl hgs0 hbv hsz2
  unfold wr2 callA outA at HT HE HN2 H6 HBv Hsz2
  unfold callA
  rw [hc]
  rw [hc] at HT HE HN2 H6 HBv Hsz2
  clear hc
  go_enter Tryd.func41, Tryd.ntmps41
  go_wp2_with fail
  refine (copied_any _ c.bytes _ HBv.out (by omega)).mono ?_
  rintro e w3 ⟨a3, c3, rfl, ho3, hn3⟩
  have HT3 := Lib.hid (HT.out.new hn3)
  have HE3 := Lib.hid (HE.out.keep hn3 (fun _ _ f => f))
  have HN3 := Lib.hid (HN2.out.then hn3)
  have H63 := Lib.hid ((hn3.block _ (Array.getElem?_eq_some_iff.1 H6.out).1 (fun f => f)).trans H6.out)
  have Hp3 : Hid (BytesAt w3 (.slice a3 c.bytes.length c3) c.bytes) := ownsRow_rowAt ho3
  have hz3 : w.heap.size + 2 ≤ w3.heap.size := by have := hn3.size; have := Hsz2.out; omega
  have Hpb3 : Hid (∀ i, Value.inBlock (.slice a3 c.bytes.length c3) i → ¬ wrSet b bb cb cg i) := fun i hi e => by
    have h5 := (ho3.lt i (inBlock_own hi)).1
    have h6 := (HBl.out i e).2
    have := Hsz2.out
    omega
  clear ho3 hn3
  go_wp2_with fail
  refine (write_any2 (ad 7) _ b bb cb cg st B _ c.bytes HT3.out.wr hf Hp3.out Hpb3.out (by omega) HE3.out.e7.cell hgl).mono ?_
  rintro e w5 ⟨n5, s5, rfl, hwrote, g5, hat5, hg5, hk5⟩
  have Hwrote := Lib.hid hwrote
  clear hwrote
  have hT5 := HT3.out.step hat5 hg5 hk5
  have hE5 := HE3.out.keep hk5 (fun i hi e => by have := (HBl.out i e).1; omega)
  have h65 : w5.heap[w.heap.size + 1]? = some (.cells #[.slice none 0 0, .int .i64 0, .int .i32 0, .bool false, .int .i64 0] 50 (0, 0)) :=
    (hk5.block _ (Array.getElem?_eq_some_iff.1 H63.out).1 (fun e => by have := (HBl.out _ e).2; omega)).trans H63.out
  have x0 := cell_of (o := 0) h65 rfl
  have x1 := cell_of (o := 1) h65 rfl
  have x2 := cell_of (o := 2) h65 rfl
  have x3 := cell_of (o := 3) h65 rfl
  have x4 := cell_of (o := 4) h65 rfl
  have y0 := frozen_of (o := 0) h65
  have y1 := frozen_of (o := 1) h65
  have y2 := frozen_of (o := 2) h65
  have y3 := frozen_of (o := 3) h65
  have y4 := frozen_of (o := 4) h65
  have HT5 := Lib.hid hT5
  have HG5 : Hid (∀ i, g5.ownBlock = some i ∨ og.ownBlock = some i → cg.ownBlock = some i ∨ og.ownBlock = some i ∨ (w.heap.size ≤ i ∧ i ≠ w.heap.size + 1)) := fun i hi => by
    rcases hi with hi | hi
    · rcases hg5 i hi with h | h
      · exact .inl h
      · have hz := hz3; right; right; omega
    · exact .inr (.inl hi)
  have HE5 := Lib.hid hE5
  have HK5 := Lib.hid (HN3.out.mono (T := wrSet b bb cb cg) (fun _ _ f => f.elim) |>.trans hk5 (fun _ _ e => e))
  clear hat5 hg5 hk5 hT5 hE5 h65
  go_wp2_with fail
  refine (number_errW _ B0 ad HE5.out _).mono ?_
  rintro e w6 ⟨rfl, rfl⟩
  go_wp2
  refine bodyPost_ret (v := .agg (outA (n5) (errN s5.err))) (by simp [results, Tryd.results41, go_sem, outA, x0, x1, x2, x3, x4]) rfl ?_
  refine wdone_of (r := w.heap.size + 1) (o := ⟨n5, errN s5.err⟩) (a' := ⟨s5, so, snd⟩) ?_ HTo.out HT5.out (.inl ⟨rfl, rfl, rfl⟩) (by omega) HG5.out HK5.out (by repeat (first | exact Keep.refl _ _ | apply Keep.set1))
  · unfold WW.Does
    rw [if_pos Hc.out]
    exact ⟨n5, s5, Hwrote.out.1, Hwrote.out.2, rfl, rfl⟩

set_option maxRecDepth 100000 in
set_option maxHeartbeats 1000000 in
theorem write_k5 (w : World) (B0 : Nat) (ad : Nat → Addr) (hE : Errs w B0 ad) (b bb cb ob b2 : Nat) (cg og : Value) (st : Wr) (so : Snk) (snd : Bool) (B : Nat) (hB0 : B0 ≤ B) (h : TwoAt (ad 7) w b bb cb ob cg og st so B)
    (c : CallR) (bv : Value) (hbv : BytesAt w bv c.bytes) (hc : c.kind = 5) (hf : st.Fits) (hl : st.snk.got.length + st.buf.length + c.bytes.length + 4 ≤ 140737488355328) :
    Calls Tryd.prog 41 #[.pointer (some ⟨b, 0, none⟩), .pointer (some ⟨b2, 0, none⟩), .agg (callA c bv)] w (WDone (ad 7) w b bb cb ob cg og ⟨st, so, snd⟩ c B) := by
  have hn2 := wr2_new w c bv
  have h6 := wr2_out w c bv
  have hT := h.new hn2
  have hE2 := hE.keep hn2 (fun _ _ f => f)
  have hgl : 7 < B := by have := hE.e7.lt; omega
  have hbl := h.wr.blocks
  have hgs0 : ∀ i, cg.ownBlock = some i ∨ og.ownBlock = some i → i < w.heap.size := fun i hi => by
    rcases hi with hi | hi
    · exact (h.wr.sk.own.lt i hi).2
    · exact (h.sk.own.lt i hi).2
  have hsz2 : (wr2 w c bv).heap.size = w.heap.size + 2 := by simp [wr2]
  have HT := Lib.hid hT
  have HE := Lib.hid hE2
  have HN2 := Lib.hid hn2
  have H6 := Lib.hid h6
  have HBl := Lib.hid hbl
  have Hc := Lib.hid hc
  have HTo := Lib.hid h
  have HGs := Lib.hid hgs0
  have Hsz2 := Lib.hid hsz2
  have HBv := Lib.hid (hbv.new hn2)
  clear h hT hE hE2 hn2 h6 hbl hgs0 hbv hsz2
  unfold wr2 callA outA at HT HE HN2 H6 HBv Hsz2
  unfold callA
  rw [hc]
  rw [hc] at HT HE HN2 H6 HBv Hsz2
  clear hc
  have hok := hf.ok
  go_enter Tryd.func41, Tryd.ntmps41
  go_wp2_with fail
  refine (available_any (ad 7) _ b bb cb cg st B HT.out.wr hok).mono ?_
  rintro e w5 ⟨rfl, _, hn5⟩
  have h65 : w5.heap[w.heap.size + 1]? = some (.cells #[.slice none 0 0, .int .i64 0, .int .i32 0, .bool false, .int .i64 0] 50 (0, 0)) :=
    (hn5.block _ (Array.getElem?_eq_some_iff.1 H6.out).1 (fun f => f)).trans H6.out
  have x0 := cell_of (o := 0) h65 rfl
  have x1 := cell_of (o := 1) h65 rfl
  have x2 := cell_of (o := 2) h65 rfl
  have x3 := cell_of (o := 3) h65 rfl
  have x4 := cell_of (o := 4) h65 rfl
  have y0 := frozen_of (o := 0) h65
  have y1 := frozen_of (o := 1) h65
  have y2 := frozen_of (o := 2) h65
  have y3 := frozen_of (o := 3) h65
  have y4 := frozen_of (o := 4) h65
  have HT5 := Lib.hid (HT.out.new hn5)
  have HG5 : Hid (∀ i, cg.ownBlock = some i ∨ og.ownBlock = some i → cg.ownBlock = some i ∨ og.ownBlock = some i ∨ (w.heap.size ≤ i ∧ i ≠ w.heap.size + 1)) := fun i hi => by
    rcases hi with hi | hi
    · exact .inl hi
    · exact .inr (.inl hi)
  have HK5 : Hid (Keep (wrSet b bb cb cg) w w5) := (HN2.out.then hn5).mono (fun _ _ f => f.elim)
  clear hn5 h65
  go_wp2
  refine bodyPost_ret (v := .agg (outA ((st.size : Int) - st.buf.length) (0))) (by simp [results, Tryd.results41, go_sem, outA, x0, x1, x2, x3, x4]) rfl ?_
  refine wdone_of (r := w.heap.size + 1) (o := ⟨(st.size : Int) - st.buf.length, 0⟩) (a' := ⟨st, so, snd⟩) ?_ HTo.out HT5.out (.inl ⟨rfl, rfl, rfl⟩) (by omega) HG5.out HK5.out (by repeat (first | exact Keep.refl _ _ | apply Keep.set1))
  · unfold WW.Does
    rw [if_neg (by rw [Hc.out]; decide)]
    rw [if_neg (by rw [Hc.out]; decide)]
    rw [if_neg (by rw [Hc.out]; decide)]
    rw [if_neg (by rw [Hc.out]; decide)]
    rw [if_neg (by rw [Hc.out]; decide)]
    rw [if_pos Hc.out]
    exact ⟨rfl, rfl⟩

set_option maxRecDepth 100000 in
set_option maxHeartbeats 1000000 in
theorem write_k6 (w : World) (B0 : Nat) (ad : Nat → Addr) (hE : Errs w B0 ad) (b bb cb ob b2 : Nat) (cg og : Value) (st : Wr) (so : Snk) (snd : Bool) (B : Nat) (hB0 : B0 ≤ B) (h : TwoAt (ad 7) w b bb cb ob cg og st so B)
    (c : CallR) (bv : Value) (hbv : BytesAt w bv c.bytes) (hc : c.kind = 6) (hf : st.Fits) (hl : st.snk.got.length + st.buf.length + c.bytes.length + 4 ≤ 140737488355328) :
    Calls Tryd.prog 41 #[.pointer (some ⟨b, 0, none⟩), .pointer (some ⟨b2, 0, none⟩), .agg (callA c bv)] w (WDone (ad 7) w b bb cb ob cg og ⟨st, so, snd⟩ c B) := by
  have hn2 := wr2_new w c bv
  have h6 := wr2_out w c bv
  have hT := h.new hn2
  have hE2 := hE.keep hn2 (fun _ _ f => f)
  have hgl : 7 < B := by have := hE.e7.lt; omega
  have hbl := h.wr.blocks
  have hgs0 : ∀ i, cg.ownBlock = some i ∨ og.ownBlock = some i → i < w.heap.size := fun i hi => by
    rcases hi with hi | hi
    · exact (h.wr.sk.own.lt i hi).2
    · exact (h.sk.own.lt i hi).2
  have hsz2 : (wr2 w c bv).heap.size = w.heap.size + 2 := by simp [wr2]
  have HT := Lib.hid hT
  have HE := Lib.hid hE2
  have HN2 := Lib.hid hn2
  have H6 := Lib.hid h6
  have HBl := Lib.hid hbl
  have Hc := Lib.hid hc
  have HTo := Lib.hid h
  have HGs := Lib.hid hgs0
  have Hsz2 := Lib.hid hsz2
  have HBv := Lib.hid (hbv.new hn2)
  clear h hT hE hE2 hn2 h6 hbl hgs0 hbv hsz2
  unfold wr2 callA outA at HT HE HN2 H6 HBv Hsz2
  unfold callA
  rw [hc]
  rw [hc] at HT HE HN2 H6 HBv Hsz2
  clear hc
  go_enter Tryd.func41, Tryd.ntmps41
  go_wp2_with fail
  refine (bufferedW_new (ad 7) _ b bb cb cg st B HT.out.wr).mono ?_
  rintro e w5 ⟨rfl, hn5⟩
  have h65 : w5.heap[w.heap.size + 1]? = some (.cells #[.slice none 0 0, .int .i64 0, .int .i32 0, .bool false, .int .i64 0] 50 (0, 0)) :=
    (hn5.block _ (Array.getElem?_eq_some_iff.1 H6.out).1 (fun f => f)).trans H6.out
  have x0 := cell_of (o := 0) h65 rfl
  have x1 := cell_of (o := 1) h65 rfl
  have x2 := cell_of (o := 2) h65 rfl
  have x3 := cell_of (o := 3) h65 rfl
  have x4 := cell_of (o := 4) h65 rfl
  have y0 := frozen_of (o := 0) h65
  have y1 := frozen_of (o := 1) h65
  have y2 := frozen_of (o := 2) h65
  have y3 := frozen_of (o := 3) h65
  have y4 := frozen_of (o := 4) h65
  have HT5 := Lib.hid (HT.out.new hn5)
  have HG5 : Hid (∀ i, cg.ownBlock = some i ∨ og.ownBlock = some i → cg.ownBlock = some i ∨ og.ownBlock = some i ∨ (w.heap.size ≤ i ∧ i ≠ w.heap.size + 1)) := fun i hi => by
    rcases hi with hi | hi
    · exact .inl hi
    · exact .inr (.inl hi)
  have HK5 : Hid (Keep (wrSet b bb cb cg) w w5) := (HN2.out.then hn5).mono (fun _ _ f => f.elim)
  clear hn5 h65
  go_wp2
  refine bodyPost_ret (v := .agg (outA (st.buf.length) (0))) (by simp [results, Tryd.results41, go_sem, outA, x0, x1, x2, x3, x4]) rfl ?_
  refine wdone_of (r := w.heap.size + 1) (o := ⟨st.buf.length, 0⟩) (a' := ⟨st, so, snd⟩) ?_ HTo.out HT5.out (.inl ⟨rfl, rfl, rfl⟩) (by omega) HG5.out HK5.out (by repeat (first | exact Keep.refl _ _ | apply Keep.set1))
  · unfold WW.Does
    rw [if_neg (by rw [Hc.out]; decide)]
    rw [if_neg (by rw [Hc.out]; decide)]
    rw [if_neg (by rw [Hc.out]; decide)]
    rw [if_neg (by rw [Hc.out]; decide)]
    rw [if_neg (by rw [Hc.out]; decide)]
    rw [if_neg (by rw [Hc.out]; decide)]
    rw [if_pos Hc.out]
    exact ⟨rfl, rfl⟩

set_option maxRecDepth 100000 in
set_option maxHeartbeats 1000000 in
theorem write_k8 (w : World) (B0 : Nat) (ad : Nat → Addr) (hE : Errs w B0 ad) (b bb cb ob b2 : Nat) (cg og : Value) (st : Wr) (so : Snk) (snd : Bool) (B : Nat) (hB0 : B0 ≤ B) (h : TwoAt (ad 7) w b bb cb ob cg og st so B)
    (c : CallR) (bv : Value) (hbv : BytesAt w bv c.bytes) (hc : c.kind < 0 ∨ 7 < c.kind) (hf : st.Fits) (hl : st.snk.got.length + st.buf.length + c.bytes.length + 4 ≤ 140737488355328) :
    Calls Tryd.prog 41 #[.pointer (some ⟨b, 0, none⟩), .pointer (some ⟨b2, 0, none⟩), .agg (callA c bv)] w (WDone (ad 7) w b bb cb ob cg og ⟨st, so, snd⟩ c B) := by
  have hn2 := wr2_new w c bv
  have h6 := wr2_out w c bv
  have hT := h.new hn2
  have hE2 := hE.keep hn2 (fun _ _ f => f)
  have hgl : 7 < B := by have := hE.e7.lt; omega
  have hbl := h.wr.blocks
  have hgs0 : ∀ i, cg.ownBlock = some i ∨ og.ownBlock = some i → i < w.heap.size := fun i hi => by
    rcases hi with hi | hi
    · exact (h.wr.sk.own.lt i hi).2
    · exact (h.sk.own.lt i hi).2
  have hsz2 : (wr2 w c bv).heap.size = w.heap.size + 2 := by simp [wr2]
  have HT := Lib.hid hT
  have HE := Lib.hid hE2
  have HN2 := Lib.hid hn2
  have H6 := Lib.hid h6
  have HBl := Lib.hid hbl
  have Hc := Lib.hid hc
  have HTo := Lib.hid h
  have HGs := Lib.hid hgs0
  have Hsz2 := Lib.hid hsz2
  have HBv := Lib.hid (hbv.new hn2)
  clear h hT hE hE2 hn2 h6 hbl hgs0 hbv hsz2
  unfold wr2 callA outA at HT HE HN2 H6 HBv Hsz2
  unfold callA
  have h65 := H6.out
  have x0 := cell_of (o := 0) h65 rfl
  have x1 := cell_of (o := 1) h65 rfl
  have x2 := cell_of (o := 2) h65 rfl
  have x3 := cell_of (o := 3) h65 rfl
  have x4 := cell_of (o := 4) h65 rfl
  have y0 := frozen_of (o := 0) h65
  have y1 := frozen_of (o := 1) h65
  have y2 := frozen_of (o := 2) h65
  have y3 := frozen_of (o := 3) h65
  have y4 := frozen_of (o := 4) h65
  clear h65
  have z0 : (c.kind == 0) = false := beq_eq_false_iff_ne.2 (by omega)
  have z1 : (c.kind == 1) = false := beq_eq_false_iff_ne.2 (by omega)
  have z2 : (c.kind == 2) = false := beq_eq_false_iff_ne.2 (by omega)
  have z3 : (c.kind == 3) = false := beq_eq_false_iff_ne.2 (by omega)
  have z4 : (c.kind == 4) = false := beq_eq_false_iff_ne.2 (by omega)
  have z5 : (c.kind == 5) = false := beq_eq_false_iff_ne.2 (by omega)
  have z6 : (c.kind == 6) = false := beq_eq_false_iff_ne.2 (by omega)
  have z7 : (c.kind == 7) = false := beq_eq_false_iff_ne.2 (by omega)
  clear hc
  go_enter Tryd.func41, Tryd.ntmps41
  go_wp2
  refine bodyPost_ret (v := .agg (outA (0) (0))) (by simp [results, Tryd.results41, go_sem, outA, x0, x1, x2, x3, x4]) rfl ?_
  refine wdone_of (r := w.heap.size + 1) (o := ⟨0, 0⟩) (a' := ⟨st, so, snd⟩) ?_ HTo.out HT.out (.inl ⟨rfl, rfl, rfl⟩) (by omega) (fun i hi => by rcases hi with hi | hi; exact .inl hi; exact .inr (.inl hi)) (HN2.out.mono (fun _ _ f => f.elim)) (by repeat (first | exact Keep.refl _ _ | apply Keep.set1))
  · unfold WW.Does
    rw [if_neg (by have := Hc.out; omega)]
    rw [if_neg (by have := Hc.out; omega)]
    rw [if_neg (by have := Hc.out; omega)]
    rw [if_neg (by have := Hc.out; omega)]
    rw [if_neg (by have := Hc.out; omega)]
    rw [if_neg (by have := Hc.out; omega)]
    rw [if_neg (by have := Hc.out; omega)]
    rw [if_neg (by have := Hc.out; omega)]
    exact ⟨rfl, rfl⟩

set_option maxRecDepth 100000 in
set_option maxHeartbeats 1000000 in
theorem write_k7a (w : World) (B0 : Nat) (ad : Nat → Addr) (hE : Errs w B0 ad) (b bb cb ob b2 : Nat) (cg og : Value) (st : Wr) (so : Snk) (snd : Bool) (B : Nat) (hB0 : B0 ≤ B) (h : TwoAt (ad 7) w b bb cb ob cg og st so B)
    (c : CallR) (bv : Value) (hbv : BytesAt w bv c.bytes) (hc : c.kind = 7) (hf : st.Fits) (hl : st.snk.got.length + st.buf.length + c.bytes.length + 4 ≤ 140737488355328) (hb2 : b2 = ob) (hsnd : snd = false) :
    Calls Tryd.prog 41 #[.pointer (some ⟨b, 0, none⟩), .pointer (some ⟨b2, 0, none⟩), .agg (callA c bv)] w (WDone (ad 7) w b bb cb ob cg og ⟨st, so, snd⟩ c B) := by
  have hb3 := hb2.symm
  subst hb3 hsnd
  have hn2 := wr2_new w c bv
  have h6 := wr2_out w c bv
  have hT := h.new hn2
  have hE2 := hE.keep hn2 (fun _ _ f => f)
  have hgl : 7 < B := by have := hE.e7.lt; omega
  have hbl := h.wr.blocks
  have hgs0 : ∀ i, cg.ownBlock = some i ∨ og.ownBlock = some i → i < w.heap.size := fun i hi => by
    rcases hi with hi | hi
    · exact (h.wr.sk.own.lt i hi).2
    · exact (h.sk.own.lt i hi).2
  have hsz2 : (wr2 w c bv).heap.size = w.heap.size + 2 := by simp [wr2]
  have HT := Lib.hid hT
  have HE := Lib.hid hE2
  have HN2 := Lib.hid hn2
  have H6 := Lib.hid h6
  have HBl := Lib.hid hbl
  have Hc := Lib.hid hc
  have HTo := Lib.hid h
  have HGs := Lib.hid hgs0
  have Hsz2 := Lib.hid hsz2
  have HBv := Lib.hid (hbv.new hn2)
  clear h hT hE hE2 hn2 h6 hbl hgs0 hbv hsz2
  unfold wr2 callA outA at HT HE HN2 H6 HBv Hsz2
  unfold callA
  rw [hc]
  rw [hc] at HT HE HN2 H6 HBv Hsz2
  clear hc
  go_enter Tryd.func41, Tryd.ntmps41
  go_wp2_with fail
  refine (resetW_any (ad 7) _ b bb cb ob cg og st so B HT.out.wr HT.out.sk HT.out.n1 HT.out.n2 HT.out.o1 HT.out.o2).mono ?_
  rintro e w5 ⟨rfl, hat5, hk5⟩
  have HT5 := Lib.hid (HT.out.turn hat5 hk5)
  have h65 : w5.heap[w.heap.size + 1]? = some (.cells #[.slice none 0 0, .int .i64 0, .int .i32 0, .bool false, .int .i64 0] 50 (0, 0)) :=
    (hk5.block _ (Array.getElem?_eq_some_iff.1 H6.out).1 (fun e => by have := (HBl.out b (.inl rfl)).2; omega)).trans H6.out
  have x0 := cell_of (o := 0) h65 rfl
  have x1 := cell_of (o := 1) h65 rfl
  have x2 := cell_of (o := 2) h65 rfl
  have x3 := cell_of (o := 3) h65 rfl
  have x4 := cell_of (o := 4) h65 rfl
  have y0 := frozen_of (o := 0) h65
  have y1 := frozen_of (o := 1) h65
  have y2 := frozen_of (o := 2) h65
  have y3 := frozen_of (o := 3) h65
  have y4 := frozen_of (o := 4) h65
  have HK5 : Hid (Keep (wrSet b bb cb cg) w w5) := (HN2.out.mono (T := wrSet b bb cb cg) (fun _ _ f => f.elim)).trans hk5 (fun i _ e => .inl e)
  clear hat5 hk5 h65
  go_wp2
  refine bodyPost_ret (v := .agg (outA (0) (0))) (by simp [results, Tryd.results41, go_sem, outA, x0, x1, x2, x3, x4]) rfl ?_
  refine wdone_of (r := w.heap.size + 1) (o := ⟨0, 0⟩) (a' := ⟨⟨so, st.size, [], false⟩, st.snk, true⟩) ?_ HTo.out HT5.out (.inr ⟨rfl, rfl, rfl, rfl⟩) (by omega) (fun i hi => by rcases hi with hi | hi; exact .inr (.inl hi); exact .inl hi) HK5.out (by repeat (first | exact Keep.refl _ _ | apply Keep.set1))
  · unfold WW.Does
    rw [if_neg (by rw [Hc.out]; decide)]
    rw [if_neg (by rw [Hc.out]; decide)]
    rw [if_neg (by rw [Hc.out]; decide)]
    rw [if_neg (by rw [Hc.out]; decide)]
    rw [if_neg (by rw [Hc.out]; decide)]
    rw [if_neg (by rw [Hc.out]; decide)]
    rw [if_neg (by rw [Hc.out]; decide)]
    rw [if_pos Hc.out]
    exact ⟨rfl, rfl⟩

set_option maxRecDepth 100000 in
set_option maxHeartbeats 1000000 in
theorem write_k7b (w : World) (B0 : Nat) (ad : Nat → Addr) (hE : Errs w B0 ad) (b bb cb ob b2 : Nat) (cg og : Value) (st : Wr) (so : Snk) (snd : Bool) (B : Nat) (hB0 : B0 ≤ B) (h : TwoAt (ad 7) w b bb cb ob cg og st so B)
    (c : CallR) (bv : Value) (hbv : BytesAt w bv c.bytes) (hc : c.kind = 7) (hf : st.Fits) (hl : st.snk.got.length + st.buf.length + c.bytes.length + 4 ≤ 140737488355328) (hb2 : b2 = cb) (hsnd : snd = true) :
    Calls Tryd.prog 41 #[.pointer (some ⟨b, 0, none⟩), .pointer (some ⟨b2, 0, none⟩), .agg (callA c bv)] w (WDone (ad 7) w b bb cb ob cg og ⟨st, so, snd⟩ c B) := by
  have hb3 := hb2.symm
  subst hb3 hsnd
  have hn2 := wr2_new w c bv
  have h6 := wr2_out w c bv
  have hT := h.new hn2
  have hE2 := hE.keep hn2 (fun _ _ f => f)
  have hgl : 7 < B := by have := hE.e7.lt; omega
  have hbl := h.wr.blocks
  have hgs0 : ∀ i, cg.ownBlock = some i ∨ og.ownBlock = some i → i < w.heap.size := fun i hi => by
    rcases hi with hi | hi
    · exact (h.wr.sk.own.lt i hi).2
    · exact (h.sk.own.lt i hi).2
  have hsz2 : (wr2 w c bv).heap.size = w.heap.size + 2 := by simp [wr2]
  have HT := Lib.hid hT
  have HE := Lib.hid hE2
  have HN2 := Lib.hid hn2
  have H6 := Lib.hid h6
  have HBl := Lib.hid hbl
  have Hc := Lib.hid hc
  have HTo := Lib.hid h
  have HGs := Lib.hid hgs0
  have Hsz2 := Lib.hid hsz2
  have HBv := Lib.hid (hbv.new hn2)
  clear h hT hE hE2 hn2 h6 hbl hgs0 hbv hsz2
  unfold wr2 callA outA at HT HE HN2 H6 HBv Hsz2
  unfold callA
  rw [hc]
  rw [hc] at HT HE HN2 H6 HBv Hsz2
  clear hc
  go_enter Tryd.func41, Tryd.ntmps41
  go_wp2_with fail
  refine (resetW_any (ad 7) _ b bb cb cb cg cg st st.snk B HT.out.wr HT.out.wr.sk HT.out.wr.ne2 HT.out.wr.ne3 HT.out.wr.g1 HT.out.wr.g2).mono ?_
  rintro e w5 ⟨rfl, hat5, hk5⟩
  have HT5 : Hid (TwoAt (ad 7) w5 b bb cb ob cg og ⟨st.snk, st.size, [], false⟩ so B) := HT.out.step hat5 (fun _ hi => .inl hi) (hk5.mono (fun i _ e => .inl e))
  have h65 : w5.heap[w.heap.size + 1]? = some (.cells #[.slice none 0 0, .int .i64 0, .int .i32 0, .bool false, .int .i64 0] 50 (0, 0)) :=
    (hk5.block _ (Array.getElem?_eq_some_iff.1 H6.out).1 (fun e => by have := (HBl.out b (.inl rfl)).2; omega)).trans H6.out
  have x0 := cell_of (o := 0) h65 rfl
  have x1 := cell_of (o := 1) h65 rfl
  have x2 := cell_of (o := 2) h65 rfl
  have x3 := cell_of (o := 3) h65 rfl
  have x4 := cell_of (o := 4) h65 rfl
  have y0 := frozen_of (o := 0) h65
  have y1 := frozen_of (o := 1) h65
  have y2 := frozen_of (o := 2) h65
  have y3 := frozen_of (o := 3) h65
  have y4 := frozen_of (o := 4) h65
  have HK5 : Hid (Keep (wrSet b bb cb cg) w w5) := (HN2.out.mono (T := wrSet b bb cb cg) (fun _ _ f => f.elim)).trans hk5 (fun i _ e => .inl e)
  clear hat5 hk5 h65
  go_wp2
  refine bodyPost_ret (v := .agg (outA (0) (0))) (by simp [results, Tryd.results41, go_sem, outA, x0, x1, x2, x3, x4]) rfl ?_
  refine wdone_of (r := w.heap.size + 1) (o := ⟨0, 0⟩) (a' := ⟨⟨st.snk, st.size, [], false⟩, so, true⟩) ?_ HTo.out HT5.out (.inl ⟨rfl, rfl, rfl⟩) (by omega) (fun i hi => by rcases hi with hi | hi; exact .inl hi; exact .inr (.inl hi)) HK5.out (by repeat (first | exact Keep.refl _ _ | apply Keep.set1))
  · unfold WW.Does
    rw [if_neg (by rw [Hc.out]; decide)]
    rw [if_neg (by rw [Hc.out]; decide)]
    rw [if_neg (by rw [Hc.out]; decide)]
    rw [if_neg (by rw [Hc.out]; decide)]
    rw [if_neg (by rw [Hc.out]; decide)]
    rw [if_neg (by rw [Hc.out]; decide)]
    rw [if_neg (by rw [Hc.out]; decide)]
    rw [if_pos Hc.out]
    exact ⟨rfl, rfl⟩

/-- write in every case. -/
theorem write_one (w : World) (B0 : Nat) (ad : Nat → Addr) (hE : Errs w B0 ad) (b bb cb ob b2 : Nat) (cg og : Value) (st : Wr) (so : Snk) (snd : Bool) (B : Nat) (hB0 : B0 ≤ B) (h : TwoAt (ad 7) w b bb cb ob cg og st so B)
    (c : CallR) (bv : Value) (hbv : BytesAt w bv c.bytes) (hf : st.Fits) (hl : st.snk.got.length + st.buf.length + c.bytes.length + 4 ≤ 140737488355328) (hb2 : b2 = if snd then cb else ob) :
    Calls Tryd.prog 41 #[.pointer (some ⟨b, 0, none⟩), .pointer (some ⟨b2, 0, none⟩), .agg (callA c bv)] w (WDone (ad 7) w b bb cb ob cg og ⟨st, so, snd⟩ c B) := by
  by_cases h0 : c.kind = 0
  · exact write_k0 w B0 ad hE b bb cb ob b2 cg og st so snd B hB0 h c bv hbv h0 hf hl
  by_cases h1 : c.kind = 1
  · exact write_k1 w B0 ad hE b bb cb ob b2 cg og st so snd B hB0 h c bv hbv h1 hf hl
  by_cases h2 : c.kind = 2
  · exact write_k2 w B0 ad hE b bb cb ob b2 cg og st so snd B hB0 h c bv hbv h2 hf hl
  by_cases h3 : c.kind = 3
  · exact write_k3 w B0 ad hE b bb cb ob b2 cg og st so snd B hB0 h c bv hbv h3 hf hl
  by_cases h4 : c.kind = 4
  · exact write_k4 w B0 ad hE b bb cb ob b2 cg og st so snd B hB0 h c bv hbv h4 hf hl
  by_cases h5 : c.kind = 5
  · exact write_k5 w B0 ad hE b bb cb ob b2 cg og st so snd B hB0 h c bv hbv h5 hf hl
  by_cases h6 : c.kind = 6
  · exact write_k6 w B0 ad hE b bb cb ob b2 cg og st so snd B hB0 h c bv hbv h6 hf hl
  by_cases h7 : c.kind = 7
  · cases hs : snd with
    | false => subst hs; exact write_k7a w B0 ad hE b bb cb ob b2 cg og st so false B hB0 h c bv hbv h7 hf hl hb2 rfl
    | true => subst hs; exact write_k7b w B0 ad hE b bb cb ob b2 cg og st so true B hB0 h c bv hbv h7 hf hl hb2 rfl
  · exact write_k8 w B0 ad hE b bb cb ob b2 cg og st so snd B hB0 h c bv hbv (by omega) hf hl
end Go.Proofs.YtjihbkmbbcdnfaaDoor
