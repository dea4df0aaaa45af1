/-
  The walk of the thin package's write.
-/
import Derived.Test.YtjihbkmbbcdnfaaDoorRun1
import Derived.Laws.IdiomStrings
import Derived.Lib.BufferRead
namespace Go.Proofs.YtjihbkmbbcdnfaaDoor
open Go.RowKit

/-- The cells of a call and of a result. -/
def callA (c : CallR) (bv : Value) : Array Value := #[.int .i64 c.kind, .int .i64 c.n, .int .u8 (c.delim.toNat : Int), bv]
def outA (n err : Int) : Array Value := #[.slice none 0 0, .int .i64 n, .int .i32 0, .bool false, .int .i64 err]

def WDone (ea : Addr) (w : World) (b bb cb ob : Nat) (cg og : Value) (a : WW) (c : CallR) (B : Nat) (e : Ending) (w' : World) : Prop :=
  ∃ (o : OutW) (a' : WW) (cb' ob' : Nat) (cg' og' : Value), a.Does c o a' ∧ e = .returned (.agg (outA o.n o.err)) ∧ TwoAt ea w' b bb cb' ob' cg' og' a'.wr a'.other B ∧
    (cb' = cb ∧ ob' = ob ∧ a'.snd = a.snd ∨ cb' = ob ∧ ob' = cb ∧ a.snd = false ∧ a'.snd = true) ∧
    (∀ i, cg'.ownBlock = some i ∨ og'.ownBlock = some i → cg.ownBlock = some i ∨ og.ownBlock = some i ∨ w.heap.size ≤ i) ∧ Keep (wrSet b bb cb cg) w w'

/-- The world in which write begins, its variables laid. -/
abbrev wr2 (w : World) (c : CallR) (bv : Value) : World := (w.alloc (.cells (callA c bv) 44)).alloc (.cells (outA 0 0) 50)

theorem wr2_new (w : World) (c : CallR) (bv : Value) : New w (wr2 w c bv) := ((Keep.refl _ _).alloc _).alloc _
theorem wr2_out (w : World) (c : CallR) (bv : Value) : (wr2 w c bv).heap[w.heap.size + 1]? = some (.cells (outA 0 0) 50 (0, 0)) := by
  have := heap_alloc_new (w.alloc (.cells (callA c bv) 44)) (.cells (outA 0 0) 50)
  simpa using this

theorem WrAt.keep {S : Nat → Prop} {ea : Addr} {w w' : World} {b bb bs : Nat} {gv : Value} {st : Wr} {B : Nat} (h : WrAt ea w b bb bs gv st B) (k : Keep S w w') (hS : ∀ i, wrSet b bb bs gv i → ¬ S i) : WrAt ea w' b bb bs gv st B := by
  obtain ⟨cs, h1, h2, h3⟩ := h.bf
  exact ⟨h.ne1, h.ne2, h.ne3, h.g1, h.g2, h.le1, h.le2, (k.block _ (Array.getElem?_eq_some_iff.1 h.wr).1 (hS _ (.inl rfl))).trans h.wr, ⟨cs, (k.block _ (Array.getElem?_eq_some_iff.1 h1).1 (hS _ (.inr (.inl rfl)))).trans h1, h2, h3⟩,
    h.sk.keep k (hS _ (.inr (.inr (.inl rfl)))) (fun i hi => hS i (.inr (.inr (.inr hi))))⟩

theorem TwoAt.keep {S : Nat → Prop} {ea : Addr} {w w' : World} {b bb cb ob : Nat} {cg og : Value} {st : Wr} {so : Snk} {B : Nat} (h : TwoAt ea w b bb cb ob cg og st so B) (k : Keep S w w') (hS : ∀ i, wrSet b bb cb cg i → ¬ S i) (h1 : ¬ S ob) (h2 : ∀ i, og.ownBlock = some i → ¬ S i) : TwoAt ea w' b bb cb ob cg og st so B :=
  ⟨h.wr.keep k hS, h.sk.keep k h1 h2, h.n1, h.n2, h.n3, h.o1, h.o2, h.o3, h.c1, h.c2⟩

theorem TwoAt.lts {ea : Addr} {w : World} {b bb cb ob : Nat} {cg og : Value} {st : Wr} {so : Snk} {B : Nat} (h : TwoAt ea w b bb cb ob cg og st so B) : b < w.heap.size ∧ bb < w.heap.size ∧ cb < w.heap.size ∧ ob < w.heap.size :=
  ⟨(h.wr.blocks b (.inl rfl)).2, (h.wr.blocks bb (.inr (.inl rfl))).2, (h.wr.blocks cb (.inr (.inr (.inl rfl)))).2, (Array.getElem?_eq_some_iff.1 h.sk.cells).1⟩

theorem wdone_of {ea : Addr} {w w5 w9 : World} {b bb cb ob cb' ob' r : Nat} {cg og cg' og' : Value} {a a' : WW} {c : CallR} {o : OutW} {B : Nat} (hdo : a.Does c o a') (h : TwoAt ea w b bb cb ob cg og a.wr a.other B) (hT : TwoAt ea w5 b bb cb' ob' cg' og' a'.wr a'.other B)
    (hsw : cb' = cb ∧ ob' = ob ∧ a'.snd = a.snd ∨ cb' = ob ∧ ob' = cb ∧ a.snd = false ∧ a'.snd = true) (hr : w.heap.size ≤ r)
    (hgs : ∀ i, cg'.ownBlock = some i ∨ og'.ownBlock = some i → cg.ownBlock = some i ∨ og.ownBlock = some i ∨ (w.heap.size ≤ i ∧ i ≠ r)) (hk5 : Keep (wrSet b bb cb cg) w w5) (hk9 : Keep (fun i => i = r) w5 w9) :
    WDone ea w b bb cb ob cg og a c B (.returned (.agg (outA o.n o.err))) w9 := by
  obtain ⟨q1, q2, q3, q4⟩ := h.lts
  have hcl : ∀ i, cg.ownBlock = some i → i < w.heap.size := fun i hi => (h.wr.sk.own.lt i hi).2
  have hol : ∀ i, og.ownBlock = some i → i < w.heap.size := fun i hi => (h.sk.own.lt i hi).2
  have hne : ∀ i, cg'.ownBlock = some i ∨ og'.ownBlock = some i → ¬ i = r := fun i hi e => by
    rcases hgs i hi with h1 | h1 | h1
    · have := hcl i h1; omega
    · have := hol i h1; omega
    · exact h1.2 e
  refine ⟨o, a', cb', ob', cg', og', hdo, rfl, hT.keep hk9 (fun i e => ?_) ?_ (fun i hi => hne i (.inr hi)), hsw, fun i hi => ?_, hk5.trans (T := fun i => i = r) hk9 (fun i hi e => by omega)⟩
  · rcases e with e | e | e | e
    · omega
    · omega
    · rcases hsw with ⟨h1, _⟩ | ⟨h1, _⟩ <;> omega
    · exact hne i (.inl e)
  · rcases hsw with ⟨_, h1, _⟩ | ⟨_, h1, _⟩ <;> omega
  · rcases hgs i hi with h1 | h1 | h1
    · exact .inl h1
    · exact .inr (.inl h1)
    · exact .inr (.inr h1.1)

theorem conv_str {w : World} {a : Option Addr} {c : Nat} {l : List UInt8} (h : BytesAt w (.slice a l.length c) l) : (convert 27 9 (.slice a l.length c)).run Tryd.prog w = .ok (.string ⟨l.toArray⟩) w := by
  have hp := RowAt.parts h
  cases ha : a with
  | none =>
    have h0 := (hp.2.2.1 ha).1
    have : l = [] := List.eq_nil_of_length_eq_zero h0
    subst this
    exact Lib.run_convert_nil_bytes w _ _ _ _ Tryd.underlying27 Tryd.underlying5 Tryd.underlying9
  | some ad =>
    refine run_convert_bytes_back w _ _ _ ad c l Tryd.underlying27 Tryd.underlying5 Tryd.underlying9 (fun j hj => ?_)
    exact hp.2.2.2 ad ha j _ (by simp [bytesV, byteV, hj])


set_option maxRecDepth 100000 in
set_option maxHeartbeats 1000000 in
theorem write_k4 (w : World) (B0 : Nat) (ad : Nat → Addr) (hE : Errs w B0 ad) (b bb cb ob b2 : Nat) (cg og : Value) (st : Wr) (so : Snk) (snd : Bool) (B : Nat) (hB0 : B0 ≤ B) (h : TwoAt (ad 7) w b bb cb ob cg og st so B)
    (c : CallR) (bv : Value) (hbv : BytesAt w bv c.bytes) (hc : c.kind = 4) (hf : st.Fits) (hl : st.snk.got.length + st.buf.length + c.bytes.length + 4 ≤ 140737488355328) :
    Calls Tryd.prog 41 #[.pointer (some ⟨b, 0, none⟩), .pointer (some ⟨b2, 0, none⟩), .agg (callA c bv)] w (WDone (ad 7) w b bb cb ob cg og ⟨st, so, snd⟩ c B) := by
  have hn2 := wr2_new w c bv
  have h6 := wr2_out w c bv
  have hT := h.new hn2
  have hE2 := hE.keep hn2 (fun _ _ f => f)
  have hgl : 7 < B := by have := hE.e7.lt; omega
  have hbl := h.wr.blocks
  have hgs0 : ∀ i, cg.ownBlock = some i ∨ og.ownBlock = some i → i < w.heap.size := fun i hi => by
    rcases hi with hi | hi
    · exact (h.wr.sk.own.lt i hi).2
    · exact (h.sk.own.lt i hi).2
  have hsz2 : (wr2 w c bv).heap.size = w.heap.size + 2 := by simp [wr2]
  have HT := Lib.hid hT
  have HE := Lib.hid hE2
  have HN2 := Lib.hid hn2
  have H6 := Lib.hid h6
  have HBl := Lib.hid hbl
  have Hc := Lib.hid hc
  have HTo := Lib.hid h
  have HGs := Lib.hid hgs0
  have Hsz2 := Lib.hid hsz2
  have HBv := Lib.hid (hbv.new hn2)
  clear h hT hE hE2 hn2 h6 hbl hgs0 hbv hsz2
  unfold wr2 callA outA at HT HE HN2 H6 HBv Hsz2
  unfold callA
  rw [hc]
  rw [hc] at HT HE HN2 H6 HBv Hsz2
  clear hc
  go_enter Tryd.func41, Tryd.ntmps41
  go_wp2_with fail
  refine (flush_any (ad 7) _ b bb cb cg st B HT.out.wr hf HE.out.e7.cell hgl).mono ?_
  rintro e w5 ⟨rfl, g5, hat5, hg5, hk5⟩
  have hT5 := HT.out.step hat5 hg5 hk5
  have hE5 := HE.out.keep hk5 (fun i hi e => by have := (HBl.out i e).1; omega)
  have h65 : w5.heap[w.heap.size + 1]? = some (.cells #[.slice none 0 0, .int .i64 0, .int .i32 0, .bool false, .int .i64 0] 50 (0, 0)) :=
    (hk5.block _ (Array.getElem?_eq_some_iff.1 H6.out).1 (fun e => by have := (HBl.out _ e).2; omega)).trans H6.out
  have x0 := cell_of (o := 0) h65 rfl
  have x1 := cell_of (o := 1) h65 rfl
  have x2 := cell_of (o := 2) h65 rfl
  have x3 := cell_of (o := 3) h65 rfl
  have x4 := cell_of (o := 4) h65 rfl
  have y0 := frozen_of (o := 0) h65
  have y1 := frozen_of (o := 1) h65
  have y2 := frozen_of (o := 2) h65
  have y3 := frozen_of (o := 3) h65
  have y4 := frozen_of (o := 4) h65
  have HT5 := Lib.hid hT5
  have HG5 : Hid (∀ i, g5.ownBlock = some i ∨ og.ownBlock = some i → cg.ownBlock = some i ∨ og.ownBlock = some i ∨ (w.heap.size ≤ i ∧ i ≠ w.heap.size + 1)) := fun i hi => by
    rcases hi with hi | hi
    · rcases hg5 i hi with h | h
      · exact .inl h
      · have hz := Hsz2.out; right; right; omega
    · exact .inr (.inl hi)
  have HE5 := Lib.hid hE5
  have HK5 := Lib.hid (HN2.out.mono (T := wrSet b bb cb cg) (fun _ _ f => f.elim) |>.trans hk5 (fun _ _ e => e))
  clear hat5 hg5 hk5 hT5 hE5 h65
  go_wp2_with fail
  refine (number_errW _ B0 ad HE5.out _).mono ?_
  rintro e w6 ⟨rfl, rfl⟩
  go_wp2
  refine bodyPost_ret (v := .agg (outA (0) (errN st.flush.err))) (by simp [results, Tryd.results41, go_sem, outA, x0, x1, x2, x3, x4]) rfl ?_
  refine wdone_of (r := w.heap.size + 1) (o := ⟨0, errN st.flush.err⟩) (a' := ⟨st.flush, so, snd⟩) ?_ HTo.out HT5.out (.inl ⟨rfl, rfl, rfl⟩) (by omega) HG5.out HK5.out (by repeat (first | exact Keep.refl _ _ | apply Keep.set1))
  · unfold WW.Does
    rw [if_neg (by rw [Hc.out]; decide)]
    rw [if_neg (by rw [Hc.out]; decide)]
    rw [if_neg (by rw [Hc.out]; decide)]
    rw [if_neg (by rw [Hc.out]; decide)]
    rw [if_pos Hc.out]
    exact ⟨rfl, rfl⟩

set_option maxRecDepth 100000 in
set_option maxHeartbeats 1000000 in
theorem write_k1 (w : World) (B0 : Nat) (ad : Nat → Addr) (hE : Errs w B0 ad) (b bb cb ob b2 : Nat) (cg og : Value) (st : Wr) (so : Snk) (snd : Bool) (B : Nat) (hB0 : B0 ≤ B) (h : TwoAt (ad 7) w b bb cb ob cg og st so B)
    (c : CallR) (bv : Value) (hbv : BytesAt w bv c.bytes) (hc : c.kind = 1) (hf : st.Fits) (hl : st.snk.got.length + st.buf.length + c.bytes.length + 4 ≤ 140737488355328) :
    Calls Tryd.prog 41 #[.pointer (some ⟨b, 0, none⟩), .pointer (some ⟨b2, 0, none⟩), .agg (callA c bv)] w (WDone (ad 7) w b bb cb ob cg og ⟨st, so, snd⟩ c B) := by
  have hn2 := wr2_new w c bv
  have h6 := wr2_out w c bv
  have hT := h.new hn2
  have hE2 := hE.keep hn2 (fun _ _ f => f)
  have hgl : 7 < B := by have := hE.e7.lt; omega
  have hbl := h.wr.blocks
  have hgs0 : ∀ i, cg.ownBlock = some i ∨ og.ownBlock = some i → i < w.heap.size := fun i hi => by
    rcases hi with hi | hi
    · exact (h.wr.sk.own.lt i hi).2
    · exact (h.sk.own.lt i hi).2
  have hsz2 : (wr2 w c bv).heap.size = w.heap.size + 2 := by simp [wr2]
  have HT := Lib.hid hT
  have HE := Lib.hid hE2
  have HN2 := Lib.hid hn2
  have H6 := Lib.hid h6
  have HBl := Lib.hid hbl
  have Hc := Lib.hid hc
  have HTo := Lib.hid h
  have HGs := Lib.hid hgs0
  have Hsz2 := Lib.hid hsz2
  have HBv := Lib.hid (hbv.new hn2)
  clear h hT hE hE2 hn2 h6 hbl hgs0 hbv hsz2
  unfold wr2 callA outA at HT HE HN2 H6 HBv Hsz2
  unfold callA
  rw [hc]
  rw [hc] at HT HE HN2 H6 HBv Hsz2
  clear hc
  have hdl := c.delim.toNat_lt
  go_enter Tryd.func41, Tryd.ntmps41
  go_wp2_with fail
  refine (writeByte_any (ad 7) _ b bb cb cg st B c.delim HT.out.wr hf (by omega) HE.out.e7.cell hgl).mono ?_
  rintro e w5 ⟨s5, rfl, hwrote, g5, hat5, hg5, hk5⟩
  have Hwrote := Lib.hid hwrote
  clear hwrote
  have hT5 := HT.out.step hat5 hg5 hk5
  have hE5 := HE.out.keep hk5 (fun i hi e => by have := (HBl.out i e).1; omega)
  have h65 : w5.heap[w.heap.size + 1]? = some (.cells #[.slice none 0 0, .int .i64 0, .int .i32 0, .bool false, .int .i64 0] 50 (0, 0)) :=
    (hk5.block _ (Array.getElem?_eq_some_iff.1 H6.out).1 (fun e => by have := (HBl.out _ e).2; omega)).trans H6.out
  have x0 := cell_of (o := 0) h65 rfl
  have x1 := cell_of (o := 1) h65 rfl
  have x2 := cell_of (o := 2) h65 rfl
  have x3 := cell_of (o := 3) h65 rfl
  have x4 := cell_of (o := 4) h65 rfl
  have y0 := frozen_of (o := 0) h65
  have y1 := frozen_of (o := 1) h65
  have y2 := frozen_of (o := 2) h65
  have y3 := frozen_of (o := 3) h65
  have y4 := frozen_of (o := 4) h65
  have HT5 := Lib.hid hT5
  have HG5 : Hid (∀ i, g5.ownBlock = some i ∨ og.ownBlock = some i → cg.ownBlock = some i ∨ og.ownBlock = some i ∨ (w.heap.size ≤ i ∧ i ≠ w.heap.size + 1)) := fun i hi => by
    rcases hi with hi | hi
    · rcases hg5 i hi with h | h
      · exact .inl h
      · have hz := Hsz2.out; right; right; omega
    · exact .inr (.inl hi)
  have HE5 := Lib.hid hE5
  have HK5 := Lib.hid (HN2.out.mono (T := wrSet b bb cb cg) (fun _ _ f => f.elim) |>.trans hk5 (fun _ _ e => e))
  clear hat5 hg5 hk5 hT5 hE5 h65
  go_wp2_with fail
  refine (number_errW _ B0 ad HE5.out _).mono ?_
  rintro e w6 ⟨rfl, rfl⟩
  go_wp2
  refine bodyPost_ret (v := .agg (outA (0) (errN s5.err))) (by simp [results, Tryd.results41, go_sem, outA, x0, x1, x2, x3, x4]) rfl ?_
  refine wdone_of (r := w.heap.size + 1) (o := ⟨0, errN s5.err⟩) (a' := ⟨s5, so, snd⟩) ?_ HTo.out HT5.out (.inl ⟨rfl, rfl, rfl⟩) (by omega) HG5.out HK5.out (by repeat (first | exact Keep.refl _ _ | apply Keep.set1))
  · unfold WW.Does
    rw [if_neg (by rw [Hc.out]; decide)]
    rw [if_pos Hc.out]
    exact ⟨s5, Hwrote.out.1, Hwrote.out.2, rfl, rfl⟩

set_option maxRecDepth 100000 in
set_option maxHeartbeats 1000000 in
theorem write_k2 (w : World) (B0 : Nat) (ad : Nat → Addr) (hE : Errs w B0 ad) (b bb cb ob b2 : Nat) (cg og : Value) (st : Wr) (so : Snk) (snd : Bool) (B : Nat) (hB0 : B0 ≤ B) (h : TwoAt (ad 7) w b bb cb ob cg og st so B)
    (c : CallR) (bv : Value) (hbv : BytesAt w bv c.bytes) (hc : c.kind = 2) (hf : st.Fits) (hl : st.snk.got.length + st.buf.length + c.bytes.length + 4 ≤ 140737488355328) :
    Calls Tryd.prog 41 #[.pointer (some ⟨b, 0, none⟩), .pointer (some ⟨b2, 0, none⟩), .agg (callA c bv)] w (WDone (ad 7) w b bb cb ob cg og ⟨st, so, snd⟩ c B) := by
  have hn2 := wr2_new w c bv
  have h6 := wr2_out w c bv
  have hT := h.new hn2
  have hE2 := hE.keep hn2 (fun _ _ f => f)
  have hgl : 7 < B := by have := hE.e7.lt; omega
  have hbl := h.wr.blocks
  have hgs0 : ∀ i, cg.ownBlock = some i ∨ og.ownBlock = some i → i < w.heap.size := fun i hi => by
    rcases hi with hi | hi
    · exact (h.wr.sk.own.lt i hi).2
    · exact (h.sk.own.lt i hi).2
  have hsz2 : (wr2 w c bv).heap.size = w.heap.size + 2 := by simp [wr2]
  have HT := Lib.hid hT
  have HE := Lib.hid hE2
  have HN2 := Lib.hid hn2
  have H6 := Lib.hid h6
  have HBl := Lib.hid hbl
  have Hc := Lib.hid hc
  have HTo := Lib.hid h
  have HGs := Lib.hid hgs0
  have Hsz2 := Lib.hid hsz2
  have HBv := Lib.hid (hbv.new hn2)
  clear h hT hE hE2 hn2 h6 hbl hgs0 hbv hsz2
  unfold wr2 callA outA at HT HE HN2 H6 HBv Hsz2
  unfold callA
  rw [hc]
  rw [hc] at HT HE HN2 H6 HBv Hsz2
  clear hc
  obtain ⟨r, hr⟩ : ∃ r : Int, r = i32of c.n := ⟨_, rfl⟩
  have hrb : -2147483648 ≤ r ∧ r ≤ 2147483647 := by rw [hr]; exact i32of_bounds _
  have Hr := Lib.hid hr
  clear hr
  go_enter Tryd.func41, Tryd.ntmps41
  go_wp2_with fail
  rw [wrap32_i32, ← Hr.out]
  refine (writeRune_any (ad 7) _ b bb cb cg st B r hrb.1 hrb.2 HT.out.wr hf (by omega) HE.out.e7.cell hgl).mono ?_
  rintro e w5 ⟨n5, s5, rfl, hwrote, g5, hat5, hg5, hk5⟩
  have Hwrote := Lib.hid hwrote
  clear hwrote
  have hT5 := HT.out.step hat5 hg5 hk5
  have hE5 := HE.out.keep hk5 (fun i hi e => by have := (HBl.out i e).1; omega)
  have h65 : w5.heap[w.heap.size + 1]? = some (.cells #[.slice none 0 0, .int .i64 0, .int .i32 0, .bool false, .int .i64 0] 50 (0, 0)) :=
    (hk5.block _ (Array.getElem?_eq_some_iff.1 H6.out).1 (fun e => by have := (HBl.out _ e).2; omega)).trans H6.out
  have x0 := cell_of (o := 0) h65 rfl
  have x1 := cell_of (o := 1) h65 rfl
  have x2 := cell_of (o := 2) h65 rfl
  have x3 := cell_of (o := 3) h65 rfl
  have x4 := cell_of (o := 4) h65 rfl
  have y0 := frozen_of (o := 0) h65
  have y1 := frozen_of (o := 1) h65
  have y2 := frozen_of (o := 2) h65
  have y3 := frozen_of (o := 3) h65
  have y4 := frozen_of (o := 4) h65
  have HT5 := Lib.hid hT5
  have HG5 : Hid (∀ i, g5.ownBlock = some i ∨ og.ownBlock = some i → cg.ownBlock = some i ∨ og.ownBlock = some i ∨ (w.heap.size ≤ i ∧ i ≠ w.heap.size + 1)) := fun i hi => by
    rcases hi with hi | hi
    · rcases hg5 i hi with h | h
      · exact .inl h
      · have hz := Hsz2.out; right; right; omega
    · exact .inr (.inl hi)
  have HE5 := Lib.hid hE5
  have HK5 := Lib.hid (HN2.out.mono (T := wrSet b bb cb cg) (fun _ _ f => f.elim) |>.trans hk5 (fun _ _ e => e))
  clear hat5 hg5 hk5 hT5 hE5 h65
  go_wp2_with fail
  refine (number_errW _ B0 ad HE5.out _).mono ?_
  rintro e w6 ⟨rfl, rfl⟩
  go_wp2
  refine bodyPost_ret (v := .agg (outA (n5) (errN s5.err))) (by simp [results, Tryd.results41, go_sem, outA, x0, x1, x2, x3, x4]) rfl ?_
  refine wdone_of (r := w.heap.size + 1) (o := ⟨n5, errN s5.err⟩) (a' := ⟨s5, so, snd⟩) ?_ HTo.out HT5.out (.inl ⟨rfl, rfl, rfl⟩) (by omega) HG5.out HK5.out (by repeat (first | exact Keep.refl _ _ | apply Keep.set1))
  · unfold WW.Does
    rw [if_neg (by rw [Hc.out]; decide)]
    rw [if_neg (by rw [Hc.out]; decide)]
    rw [if_pos Hc.out]
    exact ⟨n5, s5, by rw [← Hr.out]; exact Hwrote.out.1, by rw [← Hr.out]; exact Hwrote.out.2, rfl, rfl⟩

set_option maxRecDepth 100000 in
set_option maxHeartbeats 1000000 in
theorem write_k3 (w : World) (B0 : Nat) (ad : Nat → Addr) (hE : Errs w B0 ad) (b bb cb ob b2 : Nat) (cg og : Value) (st : Wr) (so : Snk) (snd : Bool) (B : Nat) (hB0 : B0 ≤ B) (h : TwoAt (ad 7) w b bb cb ob cg og st so B)
    (c : CallR) (bv : Value) (hbv : BytesAt w bv c.bytes) (hc : c.kind = 3) (hf : st.Fits) (hl : st.snk.got.length + st.buf.length + c.bytes.length + 4 ≤ 140737488355328) :
    Calls Tryd.prog 41 #[.pointer (some ⟨b, 0, none⟩), .pointer (some ⟨b2, 0, none⟩), .agg (callA c bv)] w (WDone (ad 7) w b bb cb ob cg og ⟨st, so, snd⟩ c B) := by
  obtain ⟨ab, cbv, rfl, _⟩ := id hbv
  rw [bytesV_length] at hbv ⊢
  have hn2 := wr2_new w c (.slice ab c.bytes.length cbv)
  have h6 := wr2_out w c (.slice ab c.bytes.length cbv)
  have hT := h.new hn2
  have hE2 := hE.keep hn2 (fun _ _ f => f)
  have hgl : 7 < B := by have := hE.e7.lt; omega
  have hbl := h.wr.blocks
  have hgs0 : ∀ i, cg.ownBlock = some i ∨ og.ownBlock = some i → i < w.heap.size := fun i hi => by
    rcases hi with hi | hi
    · exact (h.wr.sk.own.lt i hi).2
    · exact (h.sk.own.lt i hi).2
  have hsz2 : (wr2 w c (.slice ab c.bytes.length cbv)).heap.size = w.heap.size + 2 := by simp [wr2]
  have HT := Lib.hid hT
  have HE := Lib.hid hE2
  have HN2 := Lib.hid hn2
  have H6 := Lib.hid h6
  have HBl := Lib.hid hbl
  have Hc := Lib.hid hc
  have HTo := Lib.hid h
  have HGs := Lib.hid hgs0
  have Hsz2 := Lib.hid hsz2
  have HBv := Lib.hid (hbv.new hn2)
  clear h hT hE hE2 hn2 h6 hbl hgs0 hbv hsz2
  unfold wr2 callA outA at HT HE HN2 H6 HBv Hsz2
  unfold callA
  rw [hc]
  rw [hc] at HT HE HN2 H6 HBv Hsz2
  clear hc
  have hconv := conv_str HBv.out
  go_enter Tryd.func41, Tryd.ntmps41
  go_wp2_with fail
  clear hconv
  refine (writeString_any (ad 7) _ b bb cb cg st B ⟨c.bytes.toArray⟩ c.bytes HT.out.wr hf (by simp) (by omega) HE.out.e7.cell hgl).mono ?_
  rintro e w5 ⟨n5, s5, rfl, hwrote, g5, hat5, hg5, hk5⟩
  have Hwrote := Lib.hid hwrote
  clear hwrote
  have hT5 := HT.out.step hat5 hg5 hk5
  have hE5 := HE.out.keep hk5 (fun i hi e => by have := (HBl.out i e).1; omega)
  have h65 : w5.heap[w.heap.size + 1]? = some (.cells #[.slice none 0 0, .int .i64 0, .int .i32 0, .bool false, .int .i64 0] 50 (0, 0)) :=
    (hk5.block _ (Array.getElem?_eq_some_iff.1 H6.out).1 (fun e => by have := (HBl.out _ e).2; omega)).trans H6.out
  have x0 := cell_of (o := 0) h65 rfl
  have x1 := cell_of (o := 1) h65 rfl
  have x2 := cell_of (o := 2) h65 rfl
  have x3 := cell_of (o := 3) h65 rfl
  have x4 := cell_of (o := 4) h65 rfl
  have y0 := frozen_of (o := 0) h65
  have y1 := frozen_of (o := 1) h65
  have y2 := frozen_of (o := 2) h65
  have y3 := frozen_of (o := 3) h65
  have y4 := frozen_of (o := 4) h65
  have HT5 := Lib.hid hT5
  have HG5 : Hid (∀ i, g5.ownBlock = some i ∨ og.ownBlock = some i → cg.ownBlock = some i ∨ og.ownBlock = some i ∨ (w.heap.size ≤ i ∧ i ≠ w.heap.size + 1)) := fun i hi => by
    rcases hi with hi | hi
    · rcases hg5 i hi with h | h
      · exact .inl h
      · have hz := Hsz2.out; right; right; omega
    · exact .inr (.inl hi)
  have HE5 := Lib.hid hE5
  have HK5 := Lib.hid (HN2.out.mono (T := wrSet b bb cb cg) (fun _ _ f => f.elim) |>.trans hk5 (fun _ _ e => e))
  clear hat5 hg5 hk5 hT5 hE5 h65
  go_wp2_with fail
  refine (number_errW _ B0 ad HE5.out _).mono ?_
  rintro e w6 ⟨rfl, rfl⟩
  go_wp2
  refine bodyPost_ret (v := .agg (outA (n5) (errN s5.err))) (by simp [results, Tryd.results41, go_sem, outA, x0, x1, x2, x3, x4]) rfl ?_
  refine wdone_of (r := w.heap.size + 1) (o := ⟨n5, errN s5.err⟩) (a' := ⟨s5, so, snd⟩) ?_ HTo.out HT5.out (.inl ⟨rfl, rfl, rfl⟩) (by omega) HG5.out HK5.out (by repeat (first | exact Keep.refl _ _ | apply Keep.set1))
  · unfold WW.Does
    rw [if_neg (by rw [Hc.out]; decide)]
    rw [if_neg (by rw [Hc.out]; decide)]
    rw [if_neg (by rw [Hc.out]; decide)]
    rw [if_pos Hc.out]
    exact ⟨n5, s5, Hwrote.out.1, Hwrote.out.2, rfl, rfl⟩

end Go.Proofs.YtjihbkmbbcdnfaaDoor
