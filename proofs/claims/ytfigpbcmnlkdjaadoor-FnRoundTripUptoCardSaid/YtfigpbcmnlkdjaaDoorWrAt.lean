/-
  The writer: how it lies in memory, and the walks of its small methods and of Flush.
-/
import Derived.Test.YtfigpbcmnlkdjaaDoorSink
namespace Go.Proofs.YtfigpbcmnlkdjaaDoor
open Go.RowKit

/-- The error of a sink, as a value: what the package's variable holds. -/
def esV (ea : Addr) : Value := .iface 93 (.pointer (some ea))
def errW (ea : Addr) (e : Bool) : Value := if e then esV ea else .nilIface

/-- A writer in block b, its buffer in block bb, its sink in block bs; all from block B on. -/
structure WrAt (ea : Addr) (w : World) (b bb bs : Nat) (gv : Value) (st : Wr) (B : Nat) : Prop where
  ne1 : b ≠ bb
  ne2 : b ≠ bs
  ne3 : bb ≠ bs
  g1 : gv.ownBlock ≠ some b
  g2 : gv.ownBlock ≠ some bb
  le1 : B ≤ b
  le2 : B ≤ bb
  wr : w.heap[b]? = some (.cells #[errW ea st.err, .slice (some ⟨bb, 0, none⟩) st.size st.size, .int .i64 st.buf.length, .iface 62 (.pointer (some ⟨bs, 0, none⟩))] 86 (0, 0))
  bf : ∃ cs : List Value, w.heap[bb]? = some (.cells cs.toArray 5 (0, 0)) ∧ cs.length = st.size ∧ cs.take st.buf.length = bytesV st.buf
  sk : SnkAt w bs gv st.snk B

def wrSet (b bb bs : Nat) (gv : Value) : Nat → Prop := fun k => k = b ∨ k = bb ∨ k = bs ∨ gv.ownBlock = some k

/-- What a call leaves of a writer. -/
def WrOut (ea : Addr) (w : World) (b bb bs : Nat) (gv : Value) (st : Wr) (B : Nat) (w' : World) : Prop :=
  ∃ gv', WrAt ea w' b bb bs gv' st B ∧ (∀ k, gv'.ownBlock = some k → gv.ownBlock = some k ∨ w.heap.size ≤ k) ∧ Keep (wrSet b bb bs gv) w w'

theorem wrOut_of {ea : Addr} {w W : World} {b bb bs : Nat} {gv gv' : Value} {st' : Wr} {B : Nat} {cs : List Value} (n1 : b ≠ bb) (n2 : b ≠ bs) (n3 : bb ≠ bs) (l1 : B ≤ b) (l2 : B ≤ bb)
    (hgb : gv'.ownBlock ≠ some b) (hgbb : gv'.ownBlock ≠ some bb) (hg : ∀ k, gv'.ownBlock = some k → gv.ownBlock = some k ∨ w.heap.size ≤ k)
    (hwr : W.heap[b]? = some (.cells #[errW ea st'.err, .slice (some ⟨bb, 0, none⟩) st'.size st'.size, .int .i64 st'.buf.length, .iface 62 (.pointer (some ⟨bs, 0, none⟩))] 86 (0, 0)))
    (hbf : W.heap[bb]? = some (.cells cs.toArray 5 (0, 0))) (hcl : cs.length = st'.size) (hct : cs.take st'.buf.length = bytesV st'.buf) (hs : SnkAt W bs gv' st'.snk B) (hk : Keep (wrSet b bb bs gv) w W) :
    WrOut ea w b bb bs gv st' B W :=
  ⟨gv', ⟨n1, n2, n3, hgb, hgbb, l1, l2, hwr, ⟨cs, hbf, hcl, hct⟩, hs⟩, hg, hk⟩

theorem Keep.setW {b bb bs : Nat} {gv : Value} {a w : World} (h : Keep (wrSet b bb bs gv) a w) (o : Nat) (u : Value) : Keep (wrSet b bb bs gv) a (w.setCell ⟨b, o, none⟩ u) := h.setCell (.inl (.inl rfl)) u
theorem Keep.sinkW {b bb bs : Nat} {gv : Value} {a w : World} (h : Keep (sinkSet bs gv) a w) : Keep (wrSet b bb bs gv) a w :=
  h.mono (fun i _ e => by rcases e with e | e; exact .inr (.inr (.inl e)); exact .inr (.inr (.inr e)))

theorem method_write (n : Nat) (a : Addr) (w : World) : (method (n + 1) 62 (.pointer (some a)) "Write").run Tryd.prog w = .ok (60, .pointer (some a)) w := by kernel_rfl

set_option maxRecDepth 100000 in
set_option maxHeartbeats 1000000 in
theorem flush_all (ea : Addr) (w : World) (b bb bs : Nat) (gv : Value) (st : Wr) (B : Nat) (h : WrAt ea w b bb bs gv st B) (hf : st.Fits) (he : st.err = false) (hb : st.buf ≠ []) (hfit : st.snk.fits st.buf.length = st.buf.length)
    (hes : w.cell? ⟨7, 0, none⟩ = some (esV ea)) (hgl : 7 < B) :
    Calls Tryd.prog 26 #[.pointer (some ⟨b, 0, none⟩)] w fun e w' => e = .returned (errW ea st.flush.err) ∧ WrOut ea w b bb bs gv st.flush B w' := by
  obtain ⟨n1, n2, n3, g1, g2, l1, l2, hwr, ⟨cs, hbf, hcl, hct⟩, hsk⟩ := h
  have c0 : w.cell? ⟨b, 0, none⟩ = some .nilIface := by simp [World.cell?, hwr, errW, he]
  have c1 : w.cell? ⟨b, 1, none⟩ = some (.slice (some ⟨bb, 0, none⟩) st.size st.size) := by simp [World.cell?, hwr]
  have c2 : w.cell? ⟨b, 2, none⟩ = some (.int .i64 st.buf.length) := by simp [World.cell?, hwr]
  have c3 : w.cell? ⟨b, 3, none⟩ = some (.iface 62 (.pointer (some ⟨bs, 0, none⟩))) := by simp [World.cell?, hwr]
  have hlen : 0 < st.buf.length := List.length_pos_iff.2 hb
  have hle := hf.ok.buf
  have hnz : ((st.buf.length : Int) == 0) = false := by simp; omega
  obtain ⟨a', hsl, ha1, _⟩ := slice_cut (P := Tryd.prog) 23 5 Tryd.underlying23 sizeByte (some ⟨bb, 0, none⟩) st.size st.size 0 st.buf.length (by omega) hle .i64 .i64
  have ha2 : a' = some ⟨bb, 0, none⟩ := by rw [ha1 (by omega)]; rfl
  subst ha2
  have hsl2 : ∀ w, (Instr.slice 23 (.slice (some ⟨bb, 0, none⟩) st.size st.size) (some (.int .i64 0)) (some (.int .i64 st.buf.length)) none).run Tryd.prog w = .ok (.slice (some ⟨bb, 0, none⟩) st.buf.length st.size) w := hsl
  clear hsl ha1
  have hr1 := hf.r1
  have hr2 := hf.r2
  have hlen2 := hf.len
  have HSk : Hid (SnkAt w.drew bs gv st.snk B) := hsk.drew
  have HBuf : Hid (BytesAt w.drew (.slice (some ⟨bb, 0, none⟩) st.buf.length st.size) st.buf) := by
    refine ⟨some ⟨bb, 0, none⟩, st.size, by rw [bytesV_length], by rw [bytesV_length]; exact hle, by unfold maxLen; have := hf.ok.size; omega, (fun e => by cases e), fun ad e => ?_⟩
    cases e
    exact cells_of_block (w := w.drew) hbf 0 _ (by rw [bytesV_length]; exact hct)
  have Hnb : Hid (¬ Value.inBlock (.slice (some ⟨bb, 0, none⟩) st.buf.length st.size) bs) := by
    rintro ⟨ad, n, c, e, _, e2⟩
    simp only [Value.slice.injEq] at e
    obtain ⟨e, _, _⟩ := e
    cases e
    exact n3 e2
  have HEs : Hid (w.drew.cell? ⟨7, 0, none⟩ = some (esV ea)) := hes
  have HS := Lib.hid (fun (w' : World) (hk : Keep (sinkSet bs gv) w.drew w') =>
    have hnb : ¬ sinkSet bs gv b := fun e => by rcases e with e | e; exact n2 e; exact g1 e
    (show w'.cell? ⟨b, 1, none⟩ = some (.slice (some ⟨bb, 0, none⟩) st.size st.size) ∧ w'.cell? ⟨b, 2, none⟩ = some (.int .i64 st.buf.length) ∧ w'.cell? ⟨b, 3, none⟩ = some (.iface 62 (.pointer (some ⟨bs, 0, none⟩))) from
      ⟨hk.cellAt c1 hnb, hk.cellAt c2 hnb, hk.cellAt c3 hnb⟩))
  have Hwr := Lib.hid hwr
  have Hbf := Lib.hid hbf
  have Hct := Lib.hid hct
  have Hcl := Lib.hid hcl
  have Hes := Lib.hid hes
  have Hfit := Lib.hid hfit
  have He := Lib.hid he
  clear hwr hbf hct hcl hsk hes he hfit
  have hmw := method_write
  go_enter Tryd.func26, Tryd.ntmps26
  go_wp2_with fail
  go_region_held3 (fun w' => w'.cell? ⟨b, 1, none⟩ = some (.slice (some ⟨bb, 0, none⟩) st.size st.size) ∧ w'.cell? ⟨b, 2, none⟩ = some (.int .i64 st.buf.length) ∧ w'.cell? ⟨b, 3, none⟩ = some (.iface 62 (.pointer (some ⟨bs, 0, none⟩))))
    (first | exact ⟨c1, c2, c3⟩ | exact HS.out _ hkw)
    (first | (go_at_call 60; refine (sinkWrite_all _ bs gv st.snk B _ st.buf (esV ea) HSk.out HBuf.out Hnb.out HEs.out hgl hr1 hr2 hlen2 Hfit.out).mono ?_; rintro e w1 ⟨rfl, gv', hs1, hg1, hkw⟩))
  rename_i hh
  have Hg1 := Lib.hid hg1
  have hnb : ¬ sinkSet bs gv b := fun e => by rcases e with e | e; exact n2 e; exact g1 e
  have hnbb : ¬ sinkSet bs gv bb := fun e => by rcases e with e | e; exact n3 e; exact g2 e
  have Hwr1 := Lib.hid ((hkw.block b (Array.getElem?_eq_some_iff.1 Hwr.out).1 hnb).trans Hwr.out)
  have Hbf1 := Lib.hid ((hkw.block bb (Array.getElem?_eq_some_iff.1 Hbf.out).1 hnbb).trans Hbf.out)
  have d2 : w1.cell? ⟨b, 2, none⟩ = some (.int .i64 st.buf.length) := cell_of Hwr1.out rfl
  have f2 : w1.frozen? ⟨b, 2, none⟩ = false := frozen_of Hwr1.out
  have HKW := Lib.hid hkw
  have HS1 := Lib.hid hs1
  clear hh HS c0 c1 c2 c3 hg1 hkw hs1
  go_wp2
  go_ret
  have hfl : st.flush = { st with snk := st.snk.put st.buf, buf := [], err := false } := by
    unfold Wr.flush
    rw [He.out, Hfit.out]
    simp [hb]
  rw [hfl]
  refine ⟨rfl, gv', ?_, Hg1.out, ?_⟩
  · have hgb : gv'.ownBlock ≠ some b := fun e => by
      rcases Hg1.out b e with h | h
      · exact g1 h
      · have := (Array.getElem?_eq_some_iff.1 Hwr.out).1
        simp at h; omega
    have hgbb : gv'.ownBlock ≠ some bb := fun e => by
      rcases Hg1.out bb e with h | h
      · exact g2 h
      · have := (Array.getElem?_eq_some_iff.1 Hbf.out).1
        simp at h; omega
    refine ⟨n1, n2, n3, hgb, hgbb, l1, l2, (heap_set Hwr1.out _).trans (by simp [errW, He.out]), ⟨cs, ?_, Hcl.out, by simp [bytesV]⟩, ?_⟩
    · rw [Below.heap_setCell _ _ _ _ (fun e => n1 e.symm)]; exact Hbf1.out
    · exact HS1.out.keep ((Keep.refl _ _).set1 2 _) (fun e => n2 e.symm) (fun i hi e => hgb (e ▸ hi))
  · refine (Keep.setCell (S := wrSet b bb bs gv) ?_ (.inl (.inl rfl)) _)
    exact Keep.mono (Keep.ofDrew HKW.out) (fun i _ e => by rcases e with e | e; exact .inr (.inr (.inl e)); exact .inr (.inr (.inr e)))
set_option maxRecDepth 100000 in
set_option maxHeartbeats 1000000 in
theorem flush_some (ea : Addr) (w : World) (b bb bs : Nat) (gv : Value) (st : Wr) (B : Nat) (h : WrAt ea w b bb bs gv st B) (hf : st.Fits) (he : st.err = false) (hb : st.buf ≠ []) (k : Nat) (hfit : st.snk.fits st.buf.length = k) (hklt : k < st.buf.length)
    (hes : w.cell? ⟨7, 0, none⟩ = some (esV ea)) (hgl : 7 < B) :
    Calls Tryd.prog 26 #[.pointer (some ⟨b, 0, none⟩)] w fun e w' => e = .returned (errW ea st.flush.err) ∧ WrOut ea w b bb bs gv st.flush B w' := by
  obtain ⟨n1, n2, n3, g1, g2, l1, l2, hwr, ⟨cs, hbf, hcl, hct⟩, hsk⟩ := h
  have c0 : w.cell? ⟨b, 0, none⟩ = some .nilIface := by simp [World.cell?, hwr, errW, he]
  have c1 : w.cell? ⟨b, 1, none⟩ = some (.slice (some ⟨bb, 0, none⟩) st.size st.size) := by simp [World.cell?, hwr]
  have c2 : w.cell? ⟨b, 2, none⟩ = some (.int .i64 st.buf.length) := by simp [World.cell?, hwr]
  have c3 : w.cell? ⟨b, 3, none⟩ = some (.iface 62 (.pointer (some ⟨bs, 0, none⟩))) := by simp [World.cell?, hwr]
  have hlen : 0 < st.buf.length := List.length_pos_iff.2 hb
  have hle := hf.ok.buf
  have hnz : ((st.buf.length : Int) == 0) = false := by simp; omega
  obtain ⟨a', hsl, ha1, _⟩ := slice_cut (P := Tryd.prog) 23 5 Tryd.underlying23 sizeByte (some ⟨bb, 0, none⟩) st.size st.size 0 st.buf.length (by omega) hle .i64 .i64
  have ha2 : a' = some ⟨bb, 0, none⟩ := by rw [ha1 (by omega)]; rfl
  subst ha2
  have hsl2 : ∀ w, (Instr.slice 23 (.slice (some ⟨bb, 0, none⟩) st.size st.size) (some (.int .i64 0)) (some (.int .i64 st.buf.length)) none).run Tryd.prog w = .ok (.slice (some ⟨bb, 0, none⟩) st.buf.length st.size) w := hsl
  clear hsl ha1
  have hr1 := hf.r1
  have hr2 := hf.r2
  have hlen2 := hf.len
  have HSk : Hid (SnkAt w.drew bs gv st.snk B) := hsk.drew
  have HBuf : Hid (BytesAt w.drew (.slice (some ⟨bb, 0, none⟩) st.buf.length st.size) st.buf) := by
    refine ⟨some ⟨bb, 0, none⟩, st.size, by rw [bytesV_length], by rw [bytesV_length]; exact hle, by unfold maxLen; have := hf.ok.size; omega, (fun e => by cases e), fun ad e => ?_⟩
    cases e
    exact cells_of_block (w := w.drew) hbf 0 _ (by rw [bytesV_length]; exact hct)
  have Hnb : Hid (¬ Value.inBlock (.slice (some ⟨bb, 0, none⟩) st.buf.length st.size) bs) := by
    rintro ⟨ad, n, c, e, _, e2⟩
    simp only [Value.slice.injEq] at e
    obtain ⟨e, _, _⟩ := e
    cases e
    exact n3 e2
  have HEs : Hid (w.drew.cell? ⟨7, 0, none⟩ = some (esV ea)) := hes
  have HS := Lib.hid (fun (w' : World) (hk : Keep (sinkSet bs gv) w.drew w') =>
    have hnb : ¬ sinkSet bs gv b := fun e => by rcases e with e | e; exact n2 e; exact g1 e
    (show w'.cell? ⟨b, 1, none⟩ = some (.slice (some ⟨bb, 0, none⟩) st.size st.size) ∧ w'.cell? ⟨b, 2, none⟩ = some (.int .i64 st.buf.length) ∧ w'.cell? ⟨b, 3, none⟩ = some (.iface 62 (.pointer (some ⟨bs, 0, none⟩))) from
      ⟨hk.cellAt c1 hnb, hk.cellAt c2 hnb, hk.cellAt c3 hnb⟩))
  have Hwr := Lib.hid hwr
  have Hbf := Lib.hid hbf
  have Hct := Lib.hid hct
  have Hcl := Lib.hid hcl
  have Hes := Lib.hid hes
  have Hfit := Lib.hid hfit
  have He := Lib.hid he
  clear hwr hbf hct hcl hsk hes he hfit
  have hmw := method_write
  go_enter Tryd.func26, Tryd.ntmps26
  go_wp2_with fail
  go_region_held3 (fun w' => w'.cell? ⟨b, 1, none⟩ = some (.slice (some ⟨bb, 0, none⟩) st.size st.size) ∧ w'.cell? ⟨b, 2, none⟩ = some (.int .i64 st.buf.length) ∧ w'.cell? ⟨b, 3, none⟩ = some (.iface 62 (.pointer (some ⟨bs, 0, none⟩))))
    (first | exact ⟨c1, c2, c3⟩ | exact HS.out _ hkw)
    (first | (go_at_call 60; refine (sinkWrite_some _ bs gv st.snk B _ st.buf (esV ea) HSk.out HBuf.out Hnb.out HEs.out hgl hr1 hr2 hlen2 k Hfit.out hklt).mono ?_; rintro e w1 ⟨rfl, gv', hs1, hg1, hkw⟩))
  rename_i hh
  have Hg1 := Lib.hid hg1
  have hnb : ¬ sinkSet bs gv b := fun e => by rcases e with e | e; exact n2 e; exact g1 e
  have hnbb : ¬ sinkSet bs gv bb := fun e => by rcases e with e | e; exact n3 e; exact g2 e
  have Hwr1 := Lib.hid ((hkw.block b (Array.getElem?_eq_some_iff.1 Hwr.out).1 hnb).trans Hwr.out)
  have Hbf1 := Lib.hid ((hkw.block bb (Array.getElem?_eq_some_iff.1 Hbf.out).1 hnbb).trans Hbf.out)
  have d0 : w1.cell? ⟨b, 0, none⟩ = some .nilIface := cell_of Hwr1.out (by simp [errW, He.out])
  have d1 : w1.cell? ⟨b, 1, none⟩ = some (.slice (some ⟨bb, 0, none⟩) st.size st.size) := cell_of Hwr1.out rfl
  have d2 : w1.cell? ⟨b, 2, none⟩ = some (.int .i64 st.buf.length) := cell_of Hwr1.out rfl
  have f0 : w1.frozen? ⟨b, 0, none⟩ = false := frozen_of Hwr1.out
  have f2 : w1.frozen? ⟨b, 2, none⟩ = false := frozen_of Hwr1.out
  have HKW := Lib.hid hkw
  have HS1 := Lib.hid hs1
  clear hh HS c0 c1 c2 c3 hg1 hkw hs1 hsl2
  have hklt' : (k : Int) < st.buf.length := by omega
  have hfl : Hid (st.flush = { st with snk := st.snk.put st.buf, buf := st.buf.drop k, err := true }) := by
    show _ = _
    unfold Wr.flush
    rw [He.out, Hfit.out]
    simp [hb, hklt]
  have hgb : gv'.ownBlock ≠ some b := fun e => by
    rcases Hg1.out b e with h | h
    · exact g1 h
    · have := (Array.getElem?_eq_some_iff.1 Hwr.out).1
      simp at h; omega
  have hgbb : gv'.ownBlock ≠ some bb := fun e => by
    rcases Hg1.out bb e with h | h
    · exact g2 h
    · have := (Array.getElem?_eq_some_iff.1 Hbf.out).1
      simp at h; omega
  have Hgb := Lib.hid hgb
  have Hgbb := Lib.hid hgbb
  clear hgb hgbb
  by_cases hk0 : 0 < k
  · obtain ⟨a1, hA, hA1, _⟩ := slice_cut (P := Tryd.prog) 23 5 Tryd.underlying23 sizeByte (some ⟨bb, 0, none⟩) st.size st.size 0 (st.buf.length - k) (by omega) (by omega) .i64 .i64
    have hA2 : a1 = some ⟨bb, 0, none⟩ := by rw [hA1 (by omega)]; rfl
    subst hA2
    have esub : (((st.buf.length - k : Nat) : Int)) = (st.buf.length : Int) - k := by omega
    rw [esub] at hA
    have hA' : ∀ w, (Instr.slice 23 (.slice (some ⟨bb, 0, none⟩) st.size st.size) (some (.int .i64 0)) (some (.int .i64 ((st.buf.length : Int) - k))) none).run Tryd.prog w = .ok (.slice (some ⟨bb, 0, none⟩) (st.buf.length - k) st.size) w := hA
    obtain ⟨a2, hC, hC1, _⟩ := slice_cut (P := Tryd.prog) 23 5 Tryd.underlying23 sizeByte (some ⟨bb, 0, none⟩) st.size st.size k st.buf.length (by omega) (by omega) .i64 .i64
    have hC2 : a2 = some ⟨bb, k, none⟩ := by rw [hC1 (by omega)]; simp [Addr.add]; omega
    subst hC2
    have hdl : (bytesV (st.buf.drop k)).length = st.buf.length - k := by rw [bytesV_length]; simp
    have hsrc : CellsAt w1.drew ⟨bb, k, none⟩ (bytesV (st.buf.drop k)) := by
      refine cells_of_block (w := w1.drew) Hbf1.out k _ ?_
      rw [hdl]
      have e1 : bytesV (st.buf.drop k) = (bytesV st.buf).drop k := by simp [bytesV]
      rw [e1, ← Hct.out, List.drop_take]
    have Hsrc := Lib.hid hsrc
    have Hdl := Lib.hid hdl
    have Hmin : Hid ((bytesV (st.buf.drop k)).length = Nat.min (st.buf.length - k) (st.buf.length - k)) := by show _ = _; rw [hdl]; simp
    have Hroom : Hid (0 + (bytesV (st.buf.drop k)).length ≤ cs.length) := by show _ ≤ _; rw [hdl, Hcl.out]; omega
    have HS2 := Lib.hid (fun (w' : World) (hk : Keep (fun i => i = bb) w1.drew w') =>
      (show w'.cell? ⟨b, 1, none⟩ = some (.slice (some ⟨bb, 0, none⟩) st.size st.size) ∧ w'.cell? ⟨b, 2, none⟩ = some (.int .i64 st.buf.length) from ⟨hk.cellAt d1 n1, hk.cellAt d2 n1⟩))
    clear hA hA1 hC1 hsrc hdl esub
    have hwrap : IntKind.i64.wrap ((st.buf.length : Int) - k) = (st.buf.length : Int) - k := IntWalk.i64_in _ (by omega)
    unfold esV
    go_wp2
    go_region_held3 (fun w' => w'.cell? ⟨b, 1, none⟩ = some (.slice (some ⟨bb, 0, none⟩) st.size st.size) ∧ w'.cell? ⟨b, 2, none⟩ = some (.int .i64 st.buf.length))
      (first | exact ⟨d1, d2⟩ | exact HS2.out _ hkc)
      (first | (refine step_copy_any rfl _ _ 23 23 (by rfl) 5 Tryd.underlying23 sizeByte (some ⟨bb, 0, none⟩) (some ⟨bb, k, none⟩) (st.buf.length - k) st.size (st.buf.length - k) (st.size - k) (by rfl) (by rfl) bb 0 cs 5 Hbf1.out (bytesV (st.buf.drop k)) (st.buf.length - k) Hdl.out Hmin.out (fun _ => rfl) (fun _ => ⟨_, rfl, Hsrc.out⟩) Hroom.out (bytesV_one _) ?_; intro w3 hb3 hkc))
    rename_i hh2
    have Hwr3 := Lib.hid ((hkc.block b (Array.getElem?_eq_some_iff.1 Hwr1.out).1 n1).trans Hwr1.out)
    have q0 : w3.cell? ⟨b, 0, none⟩ = some .nilIface := cell_of Hwr3.out (by simp [errW, He.out])
    have q2 : w3.cell? ⟨b, 2, none⟩ = some (.int .i64 st.buf.length) := cell_of Hwr3.out rfl
    have f03 : w3.frozen? ⟨b, 0, none⟩ = false := frozen_of Hwr3.out
    have f23 : w3.frozen? ⟨b, 2, none⟩ = false := frozen_of Hwr3.out
    have HKC := Lib.hid (Keep.ofDrew hkc)
    have Hb3 := Lib.hid hb3
    clear hwrap hh2 HS2 hC hA' hkc hb3 d0 d1 d2 f0 f2
    go_wp2
    go_ret
    rw [hfl.out]
    have kk : Keep (wrSet b bb bs gv) w w3 := (Keep.sinkW (Keep.ofDrew HKW.out)).trans HKC.out (fun i _ e => .inr (.inl e))
    refine ⟨rfl, wrOut_of (cs := splice cs 0 (bytesV (st.buf.drop k))) n1 n2 n3 l1 l2 Hgb.out Hgbb.out Hg1.out ((heap_set (heap_set Hwr3.out _) _).trans ?_) ?_ ?_ ?_ ?_ ((kk.setW _ _).setW _ _)⟩
    · simp [errW, esV]; omega
    · rw [Below.heap_setCell _ _ _ _ (fun e => n1 e.symm), Below.heap_setCell _ _ _ _ (fun e => n1 e.symm)]; exact Hb3.out.out
    · rw [length_splice _ _ _ Hroom.out]; exact Hcl.out
    · show (splice cs 0 (bytesV (st.buf.drop k))).take (st.buf.drop k).length = _
      rw [← bytesV_length]; simp [splice]
    · refine (HS1.out.keep (HKC.out) (fun e => n3 e.symm) (fun i hi e => Hgbb.out (e ▸ hi))).keep (((Keep.refl _ _).set1 _ _).set1 _ _) (fun e => n2 e.symm) (fun i hi e => Hgb.out (e ▸ hi))
  · obtain rfl : k = 0 := by omega
    unfold esV
    go_wp2
    go_ret
    rw [hfl.out]
    have kk : Keep (wrSet b bb bs gv) w w1 := Keep.sinkW (Keep.ofDrew HKW.out)
    refine ⟨rfl, wrOut_of (cs := cs) n1 n2 n3 l1 l2 Hgb.out Hgbb.out Hg1.out ((heap_set (heap_set Hwr1.out _) _).trans ?_) ?_ ?_ ?_ ?_ ((kk.setW _ _).setW _ _)⟩
    · simp [errW, esV]
    · rw [Below.heap_setCell _ _ _ _ (fun e => n1 e.symm), Below.heap_setCell _ _ _ _ (fun e => n1 e.symm)]; exact Hbf1.out
    · exact Hcl.out
    · simpa using Hct.out
    · exact HS1.out.keep (((Keep.refl _ _).set1 _ _).set1 _ _) (fun e => n2 e.symm) (fun i hi e => Hgb.out (e ▸ hi))
end Go.Proofs.YtfigpbcmnlkdjaaDoor
