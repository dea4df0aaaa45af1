/-
  The walk of Write.
-/
import Derived.Test.YtfigpbcmnlkdjaaDoorWr2
import Derived.Test.YtfigpbcmnlkdjaaDoorPureW3
namespace Go.Proofs.YtfigpbcmnlkdjaaDoor
open Go.RowKit

def wMu (s : Wr) (r : Nat) : Nat := 4 * r + (if s.err then 0 else 2) + (if s.buf.isEmpty then 0 else 1)

/-- What holds at the head of each round: x is written, q is to be written. -/
def WInv (ea : Addr) (w : World) (b bb bs : Nat) (gv : Value) (st : Wr) (B : Nat) (l : List UInt8) (g : Nat) (p nn : Value) (wr : World) : Prop :=
  ∃ (x q : List UInt8) (ap : Option Addr) (cp : Nat) (s : Wr) (gk : Value), l = x ++ q ∧ nn = .int .i64 x.length ∧ p = .slice ap q.length cp ∧ BytesAt w p q ∧ (∀ i, Value.inBlock p i → ¬ wrSet b bb bs gv i) ∧
    WrAt ea wr b bb bs gk s B ∧ (∀ i, gk.ownBlock = some i → gv.ownBlock = some i ∨ w.heap.size ≤ i) ∧ Keep (wrSet b bb bs gv) w wr ∧ (s.err = false → st.Step x s) ∧ (s.err = true → st.Step l s) ∧ wMu s q.length ≤ g ∧ (s.err = false → wlen st.size st.buf.length l.length = wlen s.size s.buf.length q.length)

set_option maxRecDepth 100000 in
set_option maxHeartbeats 4000000 in
theorem write_ok2 (ea : Addr) (w : World) (b bb bs : Nat) (gv : Value) (st : Wr) (B : Nat) (p : Value) (l : List UInt8) (h : WrAt ea w b bb bs gv st B) (hf : st.Fits) (he : st.err = false)
    (hp : BytesAt w p l) (hpb : ∀ i, Value.inBlock p i → ¬ wrSet b bb bs gv i) (hl : st.snk.got.length + st.buf.length + l.length ≤ 140737488355328)
    (hes : w.cell? ⟨7, 0, none⟩ = some (esV ea)) (hgl : 7 < B) :
    Calls Tryd.prog 25 #[.pointer (some ⟨b, 0, none⟩), p] w fun e w' => ∃ n s, e = .returned (.tuple #[.int .i64 (n : Nat), errW ea s.err]) ∧ (st.Wrote l n s ∧ (s.err = false → s.buf.length = wlen st.size st.buf.length l.length)) ∧ WrOut ea w b bb bs gv s B w' := by
  obtain ⟨a, c, rfl, p1, p2, p3, p4⟩ := id hp
  rw [bytesV_length] at p1 hp hpb ⊢
  have H0 : Hid (WInv ea w b bb bs gv st B l (wMu st l.length) (.slice a l.length c) (.int .i64 0) w) :=
    ⟨[], l, a, c, st, gv, rfl, rfl, rfl, hp, hpb, h, fun _ hi => .inl hi, Keep.refl _ _, fun _ => Wr.Step.refl hf.ok he, (fun e => by rw [he] at e; cases e), Nat.le_refl _, fun _ => rfl⟩
  have Hng : Hid (¬ wrSet b bb bs gv 7) := by
    intro e
    have h1 := h.le1; have h2 := h.le2; have h3 := h.sk.le
    rcases e with e | e | e | e
    · omega
    · omega
    · omega
    · have := (h.sk.own.lt _ e).1; omega
  have Hes := Lib.hid hes
  have Hf := Lib.hid hf
  have He := Lib.hid he
  clear p1 p2 p3 p4 h hf he hp hpb hes
  have hmw := method_write
  go_enter Tryd.func25, Tryd.ntmps25
  go_wp2_with fail
  go_loopg [1, 4, 6] (wMu st l.length) (fun g p nn n6 wr => WInv ea w b bb bs gv st B l g p nn wr)
  case atStart => exact H0.out
  case round =>
    obtain ⟨x, q, ap, cp, s, gw, hlx, rfl, rfl, hbq, hpb, hat, hgw, hkw, hst1, hst2, hmu, hwl⟩ := hrel
    have hlen : l.length = x.length + q.length := by rw [hlx]; simp
    cases hse : s.err with
    | true =>
      have hstep := hst2 hse
      have hso := hstep.ok
      have HP : Hid (st.Wrote l x.length s ∧ (s.err = false → s.buf.length = wlen st.size st.buf.length l.length)) := by
        show _ ∧ _
        refine ⟨?_, fun e => by rw [hse] at e; cases e⟩
        unfold Wr.Wrote
        rw [He.out]
        exact ⟨by omega, (fun e => by rw [hse] at e; cases e), hstep⟩
      have Hat := Lib.hid hat
      have Hgw := Lib.hid hgw
      have Hse := Lib.hid hse
      clear hlx hbq hpb hat hgw hst1 hst2 hmu hstep hse hl hlen hwl
      by_cases hav : (q.length : Int) ≤ (s.size : Int) - s.buf.length
      all_goals
        go_wp2_with fail
        refine (available_any ea _ b bb bs gw s B Hat.out hso).mono ?_
        rintro e wa ⟨rfl, hwa, hna⟩
        have c0 : wa.cell? ⟨b, 0, none⟩ = some (.iface 93 (.pointer (some ea))) := cell_of hwa.wr (by simp [errW, Hse.out, esV])
        have Hwa := Lib.hid hwa
        have HKa := Lib.hid (hkw.then hna)
        clear hwa hna
        go_wp2_with fail
        go_quiet (fail)
        go_wp2
        go_ret2
        exact ⟨x.length, s, by rw [Hse.out]; rfl, HP.out, gw, Hwa.out.drewN _, Hgw.out, HKa.out.drewN _⟩
    | false =>
      have hstep := hst1 hse
      have hso := hstep.ok
      have hfs : s.Fits := Hf.out.step hstep (by omega)
      have hq16 : s.snk.got.length + s.buf.length + q.length ≤ 140737488355328 := by have := hstep.len; omega
      have hsz := hso.size
      have hbuf := hso.buf
      have Hwl := Lib.hid (hwl hse)
      have Hse := Lib.hid hse
      have Hat := Lib.hid hat
      have Hgw := Lib.hid hgw
      have Hstep := Lib.hid hstep
      clear hwl
      have Hbq := Lib.hid hbq
      have Hpb := Lib.hid hpb
      have Hlx := Lib.hid hlx
      have Hlen := Lib.hid hlen
      have hqn : q.length ≤ cp := by have := (RowAt.parts hbq).2.1; rw [bytesV_length] at this; exact this
      clear hlx hbq hpb hat hgw hst1 hst2 hstep hse hlen
      by_cases hav : (q.length : Int) ≤ (s.size : Int) - s.buf.length
      · go_wp2_with fail
        refine (available_any ea _ b bb bs gw s B Hat.out hso).mono ?_
        rintro e wa ⟨rfl, hwa, hna⟩
        have hka := hkw.then hna
        obtain ⟨n1, n2, n3, g1, g2, l1, l2, hwr, ⟨cs, hbf, hcl, hct⟩, hsk⟩ := id hwa
        have c0 : wa.cell? ⟨b, 0, none⟩ = some .nilIface := cell_of hwr (by simp [errW, Hse.out])
        have c1 : wa.cell? ⟨b, 1, none⟩ = some (.slice (some ⟨bb, 0, none⟩) s.size s.size) := cell_of hwr rfl
        have c2 : wa.cell? ⟨b, 2, none⟩ = some (.int .i64 s.buf.length) := cell_of hwr rfl
        obtain ⟨av, hsl, hav1, _⟩ := slice_from (P := Tryd.prog) 23 5 Tryd.underlying23 sizeByte (some ⟨bb, 0, none⟩) s.size s.size s.buf.length hbuf (Nat.le_refl _) .i64
        have hrow := RowAt.parts (RowAt.keep Hbq.out hka Hpb.out)
        have hql := bytesV_length q
        have Hql := Lib.hid hql
        have Hmin : Hid ((bytesV q).length = Nat.min q.length (s.size - s.buf.length)) := by show _ = _; rw [hql]; exact (Nat.min_eq_left (by omega)).symm
        have Hd : Hid (0 < (bytesV q).length → av = some ⟨bb, s.buf.length, none⟩) := fun h0 => by rw [hql] at h0; rw [hav1 (by omega)]; exact congrArg some (addr0_add _ _)
        have Hsrc : Hid (0 < (bytesV q).length → ∃ ad, ap = some ad ∧ CellsAt wa.drew ad (bytesV q)) := fun h0 => by
          cases hap : ap with
          | none => have := (hrow.2.2.1 hap).1; rw [hql] at h0; omega
          | some ad => exact ⟨ad, rfl, hrow.2.2.2 ad hap⟩
        have Hroom : Hid (s.buf.length + (bytesV q).length ≤ cs.length) := by show _ ≤ _; rw [hql, hcl]; omega
        have HS2 := Lib.hid (fun (w' : World) (hk : Keep (fun i => i = bb) wa.drew w') =>
          (show w'.cell? ⟨b, 1, none⟩ = some (.slice (some ⟨bb, 0, none⟩) s.size s.size) ∧ w'.cell? ⟨b, 2, none⟩ = some (.int .i64 s.buf.length) from ⟨hk.cellAt c1 n1, hk.cellAt c2 n1⟩))
        have Hwr := Lib.hid hwr
        have Hbf := Lib.hid hbf
        have Hct := Lib.hid hct
        have Hcl := Lib.hid hcl
        have Hsk := Lib.hid hsk
        have HKa := Lib.hid hka
        clear hwa hna hka hwr hbf hct hcl hsk hav1 hrow hql
        go_wp2_with fail
        go_region_held3 (fun w' => w'.cell? ⟨b, 1, none⟩ = some (.slice (some ⟨bb, 0, none⟩) s.size s.size) ∧ w'.cell? ⟨b, 2, none⟩ = some (.int .i64 s.buf.length))
          (first | exact ⟨c1, c2⟩ | exact HS2.out _ hkc)
          (first | (refine step_copy_any rfl _ _ 23 23 (by rfl) 5 Tryd.underlying23 sizeByte av ap (s.size - s.buf.length) (s.size - s.buf.length) q.length cp (by rfl) (by rfl) bb s.buf.length cs 5 Hbf.out (bytesV q) q.length Hql.out Hmin.out Hd.out Hsrc.out Hroom.out (bytesV_one _) ?_; intro w3 hb3 hkc))
        rename_i hh2
        have Hwr3 := Lib.hid ((hkc.block b (Array.getElem?_eq_some_iff.1 Hwr.out).1 n1).trans Hwr.out)
        have q2 : w3.cell? ⟨b, 2, none⟩ = some (.int .i64 s.buf.length) := cell_of Hwr3.out rfl
        have f23 : w3.frozen? ⟨b, 2, none⟩ = false := frozen_of Hwr3.out
        have HKC := Lib.hid (Keep.ofDrew hkc)
        have Hb3 := Lib.hid hb3
        clear hh2 HS2 hsl hkc hb3 c0 c1 c2
        have hx16 : x.length + q.length ≤ 140737488355328 := by have := Hlen.out; omega
        go_wp2
        go_ret2
        have kk : Keep (wrSet b bb bs gv) w w3 := HKa.out.trans HKC.out (fun i _ e => .inr (.inl e))
        refine ⟨l.length, { s with buf := s.buf ++ q }, ?_, ?_, wrOut_of (cs := splice cs s.buf.length (bytesV q)) n1 n2 n3 l1 l2 g1 g2 Hgw.out ((heap_set Hwr3.out _).trans ?_) ?_ ?_ ?_ ?_ (kk.setW _ _)⟩
        · rw [Hlen.out]; simp [errW, Hse.out]
        · refine ⟨?_, fun _ => by rw [Hwl.out, wlen_fit (by omega)]; simp⟩
          unfold Wr.Wrote
          rw [He.out]
          refine ⟨Nat.le_refl _, fun _ => rfl, ?_⟩
          rw [Hlx.out]
          exact Hstep.out.trans Hse.out (Wr.fill_step hso Hse.out q (by unfold Wr.avail; omega))
        · simp
        · rw [Below.heap_setCell _ _ _ _ (fun e => n1 e.symm)]; exact Hb3.out.out
        · rw [length_splice _ _ _ Hroom.out]; exact Hcl.out
        · show (splice cs s.buf.length (bytesV q)).take (s.buf ++ q).length = bytesV (s.buf ++ q)
          rw [bytesV_append, ← Hct.out, List.length_append, ← Hql.out]
          exact take_splice Hroom.out
        · exact (Hsk.out.keep HKC.out (fun e => n3 e.symm) (fun i hi e => g2 (e ▸ hi))).keep ((Keep.refl _ _).set1 _ _) (fun e => n2 e.symm) (fun i hi e => g1 (e ▸ hi))
      · have hqpos : 0 < q.length := by omega
        by_cases hbe : s.buf = []
        · have hbl : s.buf.length = 0 := by rw [hbe]; rfl
          have hk0 := s.snk.fits_le q.length
          by_cases hfit : s.snk.fits q.length = q.length
          · obtain ⟨a2, hsl, ha2, ha3⟩ := slice_from (P := Tryd.prog) 23 5 Tryd.underlying23 sizeByte ap q.length cp q.length (Nat.le_refl _) hqn .i64
            rw [Nat.sub_self] at hsl
            have Hfit := Lib.hid hfit
            have Hbe := Lib.hid hbe
            have Hbl := Lib.hid hbl
            have Ha2 := Lib.hid ha2
            have Ha3 := Lib.hid ha3
            have Hmu := Lib.hid hmu
            clear hfit hbe hbl ha2 ha3 hk0 hmu
            go_wp2_with fail
            refine (available_any ea _ b bb bs gw s B Hat.out hso).mono ?_
            rintro e wa ⟨rfl, hwa, hna⟩
            have hka := hkw.then hna
            obtain ⟨n1, n2, n3, g1, g2, l1, l2, hwr, ⟨cs, hbf, hcl, hct⟩, hsk⟩ := id hwa
            have c0 : wa.cell? ⟨b, 0, none⟩ = some .nilIface := cell_of hwr (by simp [errW, Hse.out])
            have c3 : wa.cell? ⟨b, 3, none⟩ = some (.iface 62 (.pointer (some ⟨bs, 0, none⟩))) := cell_of hwr rfl
            have Hwa := Lib.hid hwa
            have HEs := Lib.hid (hka.cellAt Hes.out Hng.out)
            have HBq : Hid (BytesAt wa (.slice ap q.length cp) q) := RowAt.keep Hbq.out hka Hpb.out
            have Hnb : Hid (¬ Value.inBlock (.slice ap q.length cp) bs) := fun hi => Hpb.out bs hi (.inr (.inr (.inl rfl)))
            have Hwr := Lib.hid hwr
            have Hbf := Lib.hid hbf
            have Hct := Lib.hid hct
            have Hcl := Lib.hid hcl
            have Hsk := Lib.hid hsk
            have HKa := Lib.hid hka
            have r1 := hfs.r1
            have r2 := hfs.r2
            have r3 : s.snk.got.length + q.length ≤ 140737488355328 := by omega
            clear hwa hna hka hwr hbf hct hcl hsk
            go_wp2_with fail
            refine (bufferedW_any ea _ b bb bs gw s B Hwa.out).mono ?_
            rintro e wb ⟨rfl, rfl⟩
            rw [Hbl.out]
            go_wp2_with fail
            refine (sinkWrite_all _ bs gw s.snk B _ q (esV ea) Hsk.out HBq.out Hnb.out HEs.out hgl r1 r2 r3 Hfit.out).mono ?_
            rintro e w1 ⟨rfl, g3, hs1, hg3, hk1⟩
            have hnb : ¬ sinkSet bs gw b := fun e => by rcases e with e | e; exact n2 e; exact g1 e
            have hnbb : ¬ sinkSet bs gw bb := fun e => by rcases e with e | e; exact n3 e; exact g2 e
            have Hwr1 := Lib.hid ((hk1.block b (Array.getElem?_eq_some_iff.1 Hwr.out).1 hnb).trans Hwr.out)
            have Hbf1 := Lib.hid ((hk1.block bb (Array.getElem?_eq_some_iff.1 Hbf.out).1 hnbb).trans Hbf.out)
            have d0 : w1.cell? ⟨b, 0, none⟩ = some .nilIface := cell_of Hwr1.out (by simp [errW, Hse.out])
            have f0 : w1.frozen? ⟨b, 0, none⟩ = false := frozen_of Hwr1.out
            have hwlt : b < wa.heap.size := (Array.getElem?_eq_some_iff.1 Hwr.out).1
            have hwlt2 : bb < wa.heap.size := (Array.getElem?_eq_some_iff.1 Hbf.out).1
            have Hgb : Hid (g3.ownBlock ≠ some b) := fun e => by
              rcases hg3 b e with h | h
              · exact g1 h
              · omega
            have Hgbb : Hid (g3.ownBlock ≠ some bb) := fun e => by
              rcases hg3 bb e with h | h
              · exact g2 h
              · omega
            have hwsz := HKa.out.size
            have Hg3 : Hid (∀ i, g3.ownBlock = some i → gv.ownBlock = some i ∨ w.heap.size ≤ i) := fun i hi => by
              rcases hg3 i hi with h | h
              · exact Hgw.out i h
              · right; omega
            have HKK : Hid (Keep (wrSet b bb bs gv) w w1) := HKa.out.trans (Keep.sinkW (b := b) (bb := bb) hk1) (fun i hi e => by
              rcases e with e | e | e | e
              · exact .inl e
              · exact .inr (.inl e)
              · exact .inr (.inr (.inl e))
              · rcases Hgw.out i e with h | h
                · exact .inr (.inr (.inr h))
                · omega)
            have HS1 := Lib.hid hs1
            have hx16 : x.length + q.length ≤ 140737488355328 := by have := Hlen.out; omega
            clear hs1 hg3 hk1 c0 c3 hwlt hwlt2 hwsz hnb hnbb
            go_wp2
            go_roundg (wMu { s with snk := s.snk.put q, err := false } 0)
            case measure =>
              have := Hmu.out
              simp [wMu, Hse.out, Hbe.out] at this ⊢
              omega
            case rel =>
              refine ⟨x ++ q, [], a2, cp - q.length, { s with snk := s.snk.put q, err := false }, g3, by rw [Hlx.out]; simp, by simp, rfl, ?_, ?_, ?_, Hg3.out, HKK.out.setW _ _, fun _ => ?_, (fun e => by cases e), Nat.le_refl _, fun _ => ?_⟩
              · have := RowAt.cut Hbq.out (lo := q.length) (hi := q.length) (Nat.le_refl _) (by rw [bytesV_length]; exact Nat.le_refl _) Ha2.out Ha3.out
                simpa [BytesAt, bytesV] using this
              · rintro i ⟨ad, n, c, e, hn, _⟩
                simp at e; omega
              · refine ⟨n1, n2, n3, Hgb.out, Hgbb.out, l1, l2, (heap_set Hwr1.out _).trans (by simp [errW]), ⟨cs, ?_, Hcl.out, Hct.out⟩, ?_⟩
                · rw [Below.heap_setCell _ _ _ _ (fun e => n1 e.symm)]; exact Hbf1.out
                · exact HS1.out.keep ((Keep.refl _ _).set1 _ _) (fun e => n2 e.symm) (fun i hi e => Hgb.out (e ▸ hi))
              · have := (Wr.direct_step hso Hbe.out q).1
                rw [Hfit.out, List.take_of_length_le (Nat.le_refl _)] at this
                exact Hstep.out.trans Hse.out this
              · rw [Hwl.out]
                show wlen s.size s.buf.length q.length = wlen s.size s.buf.length 0
                rw [Hbl.out]
                exact wlen_direct (by have := Hbl.out; omega)
          · obtain ⟨k, hk⟩ : ∃ k, s.snk.fits q.length = k := ⟨_, rfl⟩
            have hklt : k < q.length := by omega
            have hkq : k ≤ q.length := by omega
            obtain ⟨a2, hsl, ha2, ha3⟩ := slice_from (P := Tryd.prog) 23 5 Tryd.underlying23 sizeByte ap q.length cp k hkq hqn .i64
            have Hk := Lib.hid hk
            clear hk
            have Hbe := Lib.hid hbe
            have Hbl := Lib.hid hbl
            have Ha2 := Lib.hid ha2
            have Ha3 := Lib.hid ha3
            have Hmu := Lib.hid hmu
            clear hfit hbe hbl ha2 ha3 hk0 hmu
            go_wp2_with fail
            refine (available_any ea _ b bb bs gw s B Hat.out hso).mono ?_
            rintro e wa ⟨rfl, hwa, hna⟩
            have hka := hkw.then hna
            obtain ⟨n1, n2, n3, g1, g2, l1, l2, hwr, ⟨cs, hbf, hcl, hct⟩, hsk⟩ := id hwa
            have c0 : wa.cell? ⟨b, 0, none⟩ = some .nilIface := cell_of hwr (by simp [errW, Hse.out])
            have c3 : wa.cell? ⟨b, 3, none⟩ = some (.iface 62 (.pointer (some ⟨bs, 0, none⟩))) := cell_of hwr rfl
            have Hwa := Lib.hid hwa
            have HEs := Lib.hid (hka.cellAt Hes.out Hng.out)
            have HBq : Hid (BytesAt wa (.slice ap q.length cp) q) := RowAt.keep Hbq.out hka Hpb.out
            have Hnb : Hid (¬ Value.inBlock (.slice ap q.length cp) bs) := fun hi => Hpb.out bs hi (.inr (.inr (.inl rfl)))
            have Hwr := Lib.hid hwr
            have Hbf := Lib.hid hbf
            have Hct := Lib.hid hct
            have Hcl := Lib.hid hcl
            have Hsk := Lib.hid hsk
            have HKa := Lib.hid hka
            have r1 := hfs.r1
            have r2 := hfs.r2
            have r3 : s.snk.got.length + q.length ≤ 140737488355328 := by omega
            clear hwa hna hka hwr hbf hct hcl hsk
            go_wp2_with fail
            refine (bufferedW_any ea _ b bb bs gw s B Hwa.out).mono ?_
            rintro e wb ⟨rfl, rfl⟩
            rw [Hbl.out]
            go_wp2_with fail
            refine (sinkWrite_some _ bs gw s.snk B _ q (esV ea) Hsk.out HBq.out Hnb.out HEs.out hgl r1 r2 r3 k Hk.out hklt).mono ?_
            rintro e w1 ⟨rfl, g3, hs1, hg3, hk1⟩
            unfold esV
            have hnb : ¬ sinkSet bs gw b := fun e => by rcases e with e | e; exact n2 e; exact g1 e
            have hnbb : ¬ sinkSet bs gw bb := fun e => by rcases e with e | e; exact n3 e; exact g2 e
            have Hwr1 := Lib.hid ((hk1.block b (Array.getElem?_eq_some_iff.1 Hwr.out).1 hnb).trans Hwr.out)
            have Hbf1 := Lib.hid ((hk1.block bb (Array.getElem?_eq_some_iff.1 Hbf.out).1 hnbb).trans Hbf.out)
            have d0 : w1.cell? ⟨b, 0, none⟩ = some .nilIface := cell_of Hwr1.out (by simp [errW, Hse.out])
            have f0 : w1.frozen? ⟨b, 0, none⟩ = false := frozen_of Hwr1.out
            have hwlt : b < wa.heap.size := (Array.getElem?_eq_some_iff.1 Hwr.out).1
            have hwlt2 : bb < wa.heap.size := (Array.getElem?_eq_some_iff.1 Hbf.out).1
            have Hgb : Hid (g3.ownBlock ≠ some b) := fun e => by
              rcases hg3 b e with h | h
              · exact g1 h
              · omega
            have Hgbb : Hid (g3.ownBlock ≠ some bb) := fun e => by
              rcases hg3 bb e with h | h
              · exact g2 h
              · omega
            have hwsz := HKa.out.size
            have Hg3 : Hid (∀ i, g3.ownBlock = some i → gv.ownBlock = some i ∨ w.heap.size ≤ i) := fun i hi => by
              rcases hg3 i hi with h | h
              · exact Hgw.out i h
              · right; omega
            have HKK : Hid (Keep (wrSet b bb bs gv) w w1) := HKa.out.trans (Keep.sinkW (b := b) (bb := bb) hk1) (fun i hi e => by
              rcases e with e | e | e | e
              · exact .inl e
              · exact .inr (.inl e)
              · exact .inr (.inr (.inl e))
              · rcases Hgw.out i e with h | h
                · exact .inr (.inr (.inr h))
                · omega)
            have HS1 := Lib.hid hs1
            have hx16 : x.length + q.length ≤ 140737488355328 := by have := Hlen.out; omega
            clear hs1 hg3 hk1 c0 c3 hwlt hwlt2 hwsz hnb hnbb
            go_wp2
            go_roundg (wMu { s with snk := s.snk.put q, err := true } (q.length - k))
            case measure =>
              have := Hmu.out
              simp [wMu, Hse.out, Hbe.out] at this ⊢
              omega
            case rel =>
              refine ⟨x ++ q.take k, q.drop k, a2, cp - k, { s with snk := s.snk.put q, err := true }, g3, by rw [Hlx.out]; simp, by simp; omega, by simp, ?_, ?_, ?_, Hg3.out, HKK.out.setW _ _, (fun e => by cases e), fun _ => ?_, ?_, (fun e => by cases e)⟩
              · have := RowAt.cut Hbq.out (lo := k) (hi := q.length) hkq (by rw [bytesV_length]; exact Nat.le_refl _) Ha2.out Ha3.out
                have e1 : ((bytesV q).drop k).take (q.length - k) = bytesV (q.drop k) := by rw [List.take_of_length_le (by rw [List.length_drop, bytesV_length]; exact Nat.le_refl _)]; simp [bytesV]
                rw [e1] at this
                exact this
              · rintro i ⟨ad, n, c, e, hn, e2⟩
                simp at e
                obtain ⟨e, _, _⟩ := e
                have hlt : k < cp := by omega
                have h2 := Ha2.out hlt
                rw [e] at h2
                cases hap : ap with
                | none => rw [hap] at h2; cases h2
                | some ad' =>
                  rw [hap] at h2
                  simp at h2
                  refine Hpb.out i ⟨ad', q.length, cp, by rw [hap], by omega, ?_⟩
                  rw [← e2, h2]; unfold Addr.add; split <;> rfl
              · refine ⟨n1, n2, n3, Hgb.out, Hgbb.out, l1, l2, (heap_set Hwr1.out _).trans (by simp [errW, esV]), ⟨cs, ?_, Hcl.out, Hct.out⟩, ?_⟩
                · rw [Below.heap_setCell _ _ _ _ (fun e => n1 e.symm)]; exact Hbf1.out
                · exact HS1.out.keep ((Keep.refl _ _).set1 _ _) (fun e => n2 e.symm) (fun i hi e => Hgb.out (e ▸ hi))
              · have := (Wr.direct_step hso Hbe.out q).2
                rw [Hk.out, decide_eq_true hklt] at this
                rw [Hlx.out]
                exact Hstep.out.trans Hse.out this
              · simp
        · obtain ⟨v, hv⟩ : ∃ v, v = s.size - s.buf.length := ⟨_, rfl⟩
          have hvlt : v < q.length := by omega
          have hvq : v ≤ q.length := by omega
          have hbl : 0 < s.buf.length := List.length_pos_iff.2 hbe
          have hnz : ((s.buf.length : Int) == 0) = false := by simp; omega
          obtain ⟨a2, hsl2, ha2, ha3⟩ := slice_from (P := Tryd.prog) 23 5 Tryd.underlying23 sizeByte ap q.length cp v hvq hqn .i64
          obtain ⟨av, hsl, hav1, _⟩ := slice_from (P := Tryd.prog) 23 5 Tryd.underlying23 sizeByte (some ⟨bb, 0, none⟩) s.size s.size s.buf.length hbuf (Nat.le_refl _) .i64
          rw [← hv] at hsl
          have Hv := Lib.hid hv
          have Hbe := Lib.hid hbe
          have Ha2 := Lib.hid ha2
          have Ha3 := Lib.hid ha3
          have Hmu := Lib.hid hmu
          have hvb : v + s.buf.length = s.size := by omega
          have Hvb := Lib.hid hvb
          clear hbe ha2 ha3 hmu hvb
          go_wp2_with fail
          refine (available_any ea _ b bb bs gw s B Hat.out hso).mono ?_
          rintro e wa ⟨rfl, hwa, hna⟩
          have hka := hkw.then hna
          obtain ⟨n1, n2, n3, g1, g2, l1, l2, hwr, ⟨cs, hbf, hcl, hct⟩, hsk⟩ := id hwa
          have c0 : wa.cell? ⟨b, 0, none⟩ = some .nilIface := cell_of hwr (by simp [errW, Hse.out])
          have c1 : wa.cell? ⟨b, 1, none⟩ = some (.slice (some ⟨bb, 0, none⟩) s.size s.size) := cell_of hwr rfl
          have c2 : wa.cell? ⟨b, 2, none⟩ = some (.int .i64 s.buf.length) := cell_of hwr rfl
          have hrow := RowAt.parts (RowAt.keep Hbq.out hka Hpb.out)
          have hql : (bytesV (q.take v)).length = v := by rw [bytesV_length]; simp; omega
          have Hql := Lib.hid hql
          have Hmin : Hid ((bytesV (q.take v)).length = Nat.min q.length v) := by show _ = _; rw [hql]; exact (Nat.min_eq_right hvq).symm
          have Hd : Hid (0 < (bytesV (q.take v)).length → av = some ⟨bb, s.buf.length, none⟩) := fun h0 => by rw [hql] at h0; rw [hav1 (by omega)]; exact congrArg some (addr0_add _ _)
          have Hsrc : Hid (0 < (bytesV (q.take v)).length → ∃ ad, ap = some ad ∧ CellsAt wa.drew ad (bytesV (q.take v))) := fun h0 => by
            cases hap : ap with
            | none => have := (hrow.2.2.1 hap).1; rw [hql] at h0; omega
            | some ad =>
              refine ⟨ad, rfl, fun j u hu => hrow.2.2.2 ad hap j u ?_⟩
              have e1 : bytesV (q.take v) = (bytesV q).take v := by simp [bytesV]
              rw [e1, List.getElem?_take] at hu
              split at hu
              · exact hu
              · cases hu
          have Hroom : Hid (s.buf.length + (bytesV (q.take v)).length ≤ cs.length) := by show _ ≤ _; rw [hql, hcl]; omega
          have HS2 := Lib.hid (fun (w' : World) (hk : Keep (fun i => i = bb) wa.drew w') =>
            (show w'.cell? ⟨b, 1, none⟩ = some (.slice (some ⟨bb, 0, none⟩) s.size s.size) ∧ w'.cell? ⟨b, 2, none⟩ = some (.int .i64 s.buf.length) from ⟨hk.cellAt c1 n1, hk.cellAt c2 n1⟩))
          have Hwa := Lib.hid hwa
          have Hwr := Lib.hid hwr
          have Hbf := Lib.hid hbf
          have Hct := Lib.hid hct
          have Hcl := Lib.hid hcl
          have Hsk := Lib.hid hsk
          have HKa := Lib.hid hka
          clear hwa hna hka hwr hbf hct hcl hsk hav1 hrow hql hv
          go_wp2_with fail
          refine (bufferedW_any ea _ b bb bs gw s B Hwa.out).mono ?_
          rintro e wb ⟨rfl, rfl⟩
          go_wp2_with fail
          go_region_held3 (fun w' => w'.cell? ⟨b, 1, none⟩ = some (.slice (some ⟨bb, 0, none⟩) s.size s.size) ∧ w'.cell? ⟨b, 2, none⟩ = some (.int .i64 s.buf.length))
            (first | exact ⟨c1, c2⟩ | exact HS2.out _ hkc)
            (first | (refine step_copy_any rfl _ _ 23 23 (by rfl) 5 Tryd.underlying23 sizeByte av ap v v q.length cp (by rfl) (by rfl) bb s.buf.length cs 5 Hbf.out (bytesV (q.take v)) v Hql.out Hmin.out Hd.out Hsrc.out Hroom.out (bytesV_one _) ?_; intro w3 hb3 hkc))
          rename_i hh2
          have Hwr3 := Lib.hid ((hkc.block b (Array.getElem?_eq_some_iff.1 Hwr.out).1 n1).trans Hwr.out)
          have q2 : w3.cell? ⟨b, 2, none⟩ = some (.int .i64 s.buf.length) := cell_of Hwr3.out rfl
          have f23 : w3.frozen? ⟨b, 2, none⟩ = false := frozen_of Hwr3.out
          have HKC := Lib.hid (Keep.ofDrew hkc)
          have Hb3 := Lib.hid hb3
          clear hh2 HS2 hsl hkc hb3 c0 c1 c2
          have hx16 : x.length + q.length ≤ 140737488355328 := by have := Hlen.out; omega
          go_wp2_with fail
          have hat4 : WrAt ea (w3.setCell ⟨b, 2, none⟩ (.int .i64 ((s.buf.length : Int) + v))) b bb bs gw { s with buf := s.buf ++ q.take v } B := by
            refine ⟨n1, n2, n3, g1, g2, l1, l2, (heap_set Hwr3.out _).trans ?_, ⟨splice cs s.buf.length (bytesV (q.take v)), ?_, ?_, ?_⟩, ?_⟩
            · simp; omega
            · rw [Below.heap_setCell _ _ _ _ (fun e => n1 e.symm)]; exact Hb3.out.out
            · rw [length_splice _ _ _ Hroom.out]; exact Hcl.out
            · show (splice cs s.buf.length (bytesV (q.take v))).take (s.buf ++ q.take v).length = bytesV (s.buf ++ q.take v)
              rw [bytesV_append, ← Hct.out, List.length_append, ← bytesV_length (q.take v)]
              exact take_splice Hroom.out
            · exact (Hsk.out.keep HKC.out (fun e => n3 e.symm) (fun i hi e => g2 (e ▸ hi))).keep ((Keep.refl _ _).set1 _ _) (fun e => n2 e.symm) (fun i hi e => g1 (e ▸ hi))
          have hstep4 : s.Step (q.take v) { s with buf := s.buf ++ q.take v } := Wr.fill_step hso Hse.out (q.take v) (by unfold Wr.avail; have := Hv.out; simp; omega)
          have hfits4 : Wr.Fits { s with buf := s.buf ++ q.take v } := hfs.step hstep4 (by simp; omega)
          have hk4 : Keep (wrSet b bb bs gv) w (w3.setCell ⟨b, 2, none⟩ (.int .i64 ((s.buf.length : Int) + v))) := (HKa.out.trans HKC.out (fun i _ e => .inr (.inl e))).setW _ _
          refine (flush_any ea _ b bb bs gw _ B hat4 hfits4 (hk4.cellAt Hes.out Hng.out) hgl).mono ?_
          rintro e w5 ⟨rfl, g5, hat5, hg5, hk5⟩
          obtain ⟨s5, hs5⟩ : ∃ s5, s5 = ({ s with buf := s.buf ++ q.take v } : Wr).flush := ⟨_, rfl⟩
          rw [← hs5] at hat5 ⊢
          have hfl := Wr.flush_step (a := { s with buf := s.buf ++ q.take v }) hstep4.ok Hse.out
          rw [← hs5] at hfl
          have Hat5 := Lib.hid hat5
          have hwsz := hk4.size
          have Hg5 : Hid (∀ i, g5.ownBlock = some i → gv.ownBlock = some i ∨ w.heap.size ≤ i) := fun i hi => by
            rcases hg5 i hi with h | h
            · exact Hgw.out i h
            · right; omega
          have HK5 : Hid (Keep (wrSet b bb bs gv) w w5) := hk4.trans hk5 (fun i hi e => by
            rcases e with e | e | e | e
            · exact .inl e
            · exact .inr (.inl e)
            · exact .inr (.inr (.inl e))
            · rcases Hgw.out i e with h | h
              · exact .inr (.inr (.inr h))
              · omega)
          have Hstep5 : Hid (st.Step (x ++ q.take v) s5) := by
            show st.Step _ _
            have h1 := Hstep.out.trans Hse.out hstep4
            have h2 := h1.trans Hse.out hfl.1
            simpa using h2
          have Hbuf5 := Lib.hid hfl.2
          clear hfl hs5 hat5 hg5 hk5 hat4 hstep4 hfits4 hk4 hwsz q2 f23
          go_wp2
          go_roundg (wMu s5 (q.length - v))
          case measure =>
            have h1 := Hmu.out
            have h2 := Hbe.out
            unfold wMu at h1 ⊢
            rw [Hse.out] at h1
            simp [h2] at h1
            cases he5 : s5.err with
            | true => simp; split <;> omega
            | false => simp [Hbuf5.out he5]; omega
          case rel =>
            refine ⟨x ++ q.take v, q.drop v, a2, cp - v, s5, g5, by rw [Hlx.out]; simp, by simp; omega, by simp, ?_, ?_, Hat5.out, Hg5.out, HK5.out, fun _ => Hstep5.out, fun e => ?_, by simp, fun e => ?_⟩
            · have := RowAt.cut Hbq.out (lo := v) (hi := q.length) hvq (by rw [bytesV_length]; exact Nat.le_refl _) Ha2.out Ha3.out
              have e1 : ((bytesV q).drop v).take (q.length - v) = bytesV (q.drop v) := by rw [List.take_of_length_le (by rw [List.length_drop, bytesV_length]; exact Nat.le_refl _)]; simp [bytesV]
              rw [e1] at this
              exact this
            · rintro i ⟨ad, n, c, e, hn, e2⟩
              simp at e
              obtain ⟨e, _, _⟩ := e
              have hlt : v < cp := by omega
              have h2 := Ha2.out hlt
              rw [e] at h2
              cases hap : ap with
              | none => rw [hap] at h2; cases h2
              | some ad' =>
                rw [hap] at h2
                simp at h2
                refine Hpb.out i ⟨ad', q.length, cp, by rw [hap], by omega, ?_⟩
                rw [← e2, h2]; unfold Addr.add; split <;> rfl
            · have h3 := Hstep5.out.more e (q.drop v)
              rw [Hlx.out]
              simpa using h3
            · have h4 := Hstep5.out.size
              have h5 := Hstep.out.size
              have h6 := Hvb.out
              have h7 := List.length_pos_iff.2 Hbe.out
              have h8 : (q.drop v).length = q.length - (s.size - s.buf.length) := by rw [List.length_drop]; omega
              rw [Hwl.out, Hbuf5.out e, h8, show s5.size = s.size by omega]
              exact wlen_fill (by omega) h7

theorem write_ok (ea : Addr) (w : World) (b bb bs : Nat) (gv : Value) (st : Wr) (B : Nat) (p : Value) (l : List UInt8) (h : WrAt ea w b bb bs gv st B) (hf : st.Fits) (he : st.err = false)
    (hp : BytesAt w p l) (hpb : ∀ i, Value.inBlock p i → ¬ wrSet b bb bs gv i) (hl : st.snk.got.length + st.buf.length + l.length ≤ 140737488355328)
    (hes : w.cell? ⟨7, 0, none⟩ = some (esV ea)) (hgl : 7 < B) :
    Calls Tryd.prog 25 #[.pointer (some ⟨b, 0, none⟩), p] w fun e w' => ∃ n s, e = .returned (.tuple #[.int .i64 (n : Nat), errW ea s.err]) ∧ st.Wrote l n s ∧ WrOut ea w b bb bs gv s B w' :=
  (write_ok2 ea w b bb bs gv st B p l h hf he hp hpb hl hes hgl).mono fun _ _ ⟨n, s, h1, h2, h3⟩ => ⟨n, s, h1, h2.1, h3⟩
end Go.Proofs.YtfigpbcmnlkdjaaDoor
