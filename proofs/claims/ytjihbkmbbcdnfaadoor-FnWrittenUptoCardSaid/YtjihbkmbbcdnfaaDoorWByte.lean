/-
  The walk of WriteByte.
-/
import Derived.Test.YtjihbkmbbcdnfaaDoorWrite2
namespace Go.Proofs.YtjihbkmbbcdnfaaDoor
open Go.RowKit

theorem take_set_succ {cs : List Value} {n : Nat} (h : n < cs.length) (v : Value) : (cs.set n v).take (n + 1) = cs.take n ++ [v] := by
  rw [List.take_succ_eq_append_getElem (by simpa using h)]
  simp [List.take_set_of_le]

/-- What a byte laid into the buffer leaves. -/
theorem wbyte_end {ea : Addr} {w0 W : World} {b bb bs : Nat} {gv0 gv : Value} {s : Wr} {B : Nat} {cs : List Value} {c : UInt8} (n1 : b ≠ bb) (n2 : b ≠ bs) (n3 : bb ≠ bs) (g1 : gv.ownBlock ≠ some b) (g2 : gv.ownBlock ≠ some bb) (l1 : B ≤ b) (l2 : B ≤ bb)
    (hwr : W.heap[b]? = some (.cells #[errW ea s.err, .slice (some ⟨bb, 0, none⟩) s.size s.size, .int .i64 s.buf.length, .iface 62 (.pointer (some ⟨bs, 0, none⟩))] 85 (0, 0)))
    (hbf : W.heap[bb]? = some (.cells cs.toArray 5 (0, 0))) (hcl : cs.length = s.size) (hct : cs.take s.buf.length = bytesV s.buf) (hsk : SnkAt W bs gv s.snk B) (hlt : s.buf.length < s.size)
    (hg : ∀ k, gv.ownBlock = some k → gv0.ownBlock = some k ∨ w0.heap.size ≤ k) (hk : Keep (wrSet b bb bs gv0) w0 W) :
    WrOut ea w0 b bb bs gv0 { s with buf := s.buf ++ [c] } B ((W.setCell ⟨bb, s.buf.length, none⟩ (.int .u8 (c.toNat : Int))).setCell ⟨b, 2, none⟩ (.int .i64 ((s.buf.length : Int) + 1))) := by
  have k1 : Keep (fun i => i = bb) W (W.setCell ⟨bb, s.buf.length, none⟩ (.int .u8 (c.toNat : Int))) := (Keep.refl _ _).set1 _ _
  have k2 : Keep (fun i => i = b) (W.setCell ⟨bb, s.buf.length, none⟩ (.int .u8 (c.toNat : Int))) ((W.setCell ⟨bb, s.buf.length, none⟩ (.int .u8 (c.toNat : Int))).setCell ⟨b, 2, none⟩ (.int .i64 ((s.buf.length : Int) + 1))) := (Keep.refl _ _).set1 _ _
  have hwr1 : (W.setCell ⟨bb, s.buf.length, none⟩ (.int .u8 (c.toNat : Int))).heap[b]? = _ := (k1.block b (Array.getElem?_eq_some_iff.1 hwr).1 n1).trans hwr
  have hbf1 := heap_set (o := s.buf.length) hbf (.int .u8 (c.toNat : Int))
  refine wrOut_of (cs := cs.set s.buf.length (.int .u8 (c.toNat : Int))) n1 n2 n3 l1 l2 g1 g2 hg ((heap_set hwr1 _).trans (by simp)) ?_ (by simpa using hcl) ?_ ?_ ((hk.setCell (p := ⟨bb, s.buf.length, none⟩) (.inl (.inr (.inl rfl))) _).setW _ _)
  · rw [Below.heap_setCell _ _ _ _ (fun e => n1 e.symm)]
    exact hbf1.trans (by simp)
  · show (cs.set s.buf.length (.int .u8 (c.toNat : Int))).take (s.buf ++ [c]).length = bytesV (s.buf ++ [c])
    rw [List.length_append, List.length_singleton, take_set_succ (by omega), hct, bytesV_append]
    rfl
  · exact (hsk.keep k1 (fun e => n3 e.symm) (fun i hi e => g2 (e ▸ hi))).keep k2 (fun e => n2 e.symm) (fun i hi e => g1 (e ▸ hi))

theorem errW_f (ea : Addr) : errW ea false = .nilIface := rfl

set_option maxRecDepth 100000 in
set_option maxHeartbeats 1000000 in
theorem writeByte_any (ea : Addr) (w : World) (b bb bs : Nat) (gv : Value) (st : Wr) (B : Nat) (c : UInt8) (h : WrAt ea w b bb bs gv st B) (hf : st.Fits) (hl : st.snk.got.length + st.buf.length + 1 ≤ 140737488355328)
    (hes : w.cell? ⟨7, 0, none⟩ = some (esV ea)) (hgl : 7 < B) :
    Calls Tryd.prog 49 #[.pointer (some ⟨b, 0, none⟩), .int .u8 (c.toNat : Int)] w fun e w' => ∃ s, e = .returned (errW ea s.err) ∧
      (st.Wrote [c] (if s.err then 0 else 1) s ∧ (st.err = false → s.err = false → s.buf.length = blen st.size st.buf.length)) ∧ WrOut ea w b bb bs gv s B w' := by
  have hcb := c.toNat_lt
  cases he : st.err with
  | true =>
    have c0 : w.cell? ⟨b, 0, none⟩ = some (.iface 97 (.pointer (some ea))) := cell_of h.wr (by simp [errW, he, esV])
    have H := Lib.hid (WrOut.same h)
    have He := Lib.hid he
    clear h hf hes he
    go_enter Tryd.func49, Tryd.ntmps49
    go_wp2
    go_ret
    refine ⟨st, by rw [He.out]; rfl, ⟨?_, (fun e => by cases e)⟩, H.out⟩
    unfold Wr.Wrote
    rw [He.out]
    exact ⟨rfl, rfl⟩
  | false =>
    have c0 : w.cell? ⟨b, 0, none⟩ = some .nilIface := cell_of h.wr (by simp [errW, he])
    have He := Lib.hid he
    have Hh := Lib.hid h
    have Hes := Lib.hid hes
    have hok := hf.ok
    have hokb := hf.ok.buf
    have hoks := hf.ok.size
    clear h hes he
    by_cases hfull : st.size - st.buf.length = 0
    · have hav : ((st.size : Int) - st.buf.length) ≤ 0 := by omega
      obtain ⟨hst1, hst2⟩ := Wr.flush_step hok He.out
      obtain ⟨s1, hs1⟩ : ∃ s1, s1 = st.flush := ⟨_, rfl⟩
      rw [← hs1] at hst1 hst2
      have Hs1 := Lib.hid hs1
      have Hst1 := Lib.hid hst1
      have Hst2 := Lib.hid hst2
      clear hst1 hst2 hs1
      cases he1 : s1.err with
      | true =>
        have He1 := Lib.hid he1
        clear he1
        go_enter Tryd.func49, Tryd.ntmps49
        go_wp2_with fail
        refine (available_any ea _ b bb bs gv st B Hh.out hok).mono ?_
        rintro e wa ⟨rfl, hwa, hna⟩
        have Hwa := Lib.hid hwa
        have Hes2 := Lib.hid (New.cellAt hna Hes.out)
        have Hna := Lib.hid hna
        clear hwa hna
        go_wp2_with fail
        refine (flush_any ea _ b bb bs gv st B Hwa.out hf Hes2.out hgl).mono ?_
        rw [← Hs1.out, He1.out]
        rintro e w5 ⟨rfl, g5, hat5, hg5, hk5⟩
        have c05 : w5.cell? ⟨b, 0, none⟩ = some (.iface 97 (.pointer (some ea))) := cell_of hat5.wr (by simp [errW, He1.out, esV])
        have hwsz := Hna.out.size
        have HO : Hid (WrOut ea w b bb bs gv s1 B w5) := ⟨g5, hat5, fun i hi => by
          rcases hg5 i hi with h | h
          · exact .inl h
          · right; omega, (Hna.out.mono (fun _ _ f => f.elim)).trans hk5 (fun _ _ e => e)⟩
        clear hat5 hg5 hk5 hwsz
        unfold errW esV
        go_wp2
        go_ret
        refine ⟨s1, by rw [He1.out]; rfl, ⟨?_, (fun _ e => by rw [He1.out] at e; cases e)⟩, HO.out⟩
        unfold Wr.Wrote
        rw [He.out, He1.out]
        refine ⟨by simp, (fun e => by cases e), ?_⟩
        have := Hst1.out.more He1.out [c]
        simpa using this
      | false =>
        have He1 := Lib.hid he1
        have Hb1 := Lib.hid (Hst2.out he1)
        clear he1
        go_enter Tryd.func49, Tryd.ntmps49
        go_wp2_with fail
        refine (available_any ea _ b bb bs gv st B Hh.out hok).mono ?_
        rintro e wa ⟨rfl, hwa, hna⟩
        have Hwa := Lib.hid hwa
        have Hes2 := Lib.hid (New.cellAt hna Hes.out)
        have Hna := Lib.hid hna
        clear hwa hna
        go_wp2_with fail
        refine (flush_any ea _ b bb bs gv st B Hwa.out hf Hes2.out hgl).mono ?_
        rw [← Hs1.out, He1.out]
        rintro e w5 ⟨rfl, g5, hat5, hg5, hk5⟩
        have hwsz := Hna.out.size
        have HG5 : Hid (∀ i, g5.ownBlock = some i → gv.ownBlock = some i ∨ w.heap.size ≤ i) := fun i hi => by
          rcases hg5 i hi with h | h
          · exact .inl h
          · right; omega
        have HK5 : Hid (Keep (wrSet b bb bs gv) w w5) := (Hna.out.mono (fun _ _ f => f.elim)).trans hk5 (fun _ _ e => e)
        clear hg5 hk5 hwsz
        have hok1 := Hst1.out.ok
        have hsz1 : s1.size = st.size := Hst1.out.size
        have Hsz1 := Lib.hid hsz1
        clear hsz1
        rw [errW_f]
        have f25 : w5.frozen? ⟨b, 2, none⟩ = false := frozen_of hat5.wr
        have c15 : w5.cell? ⟨b, 1, none⟩ = some (.slice (some ⟨bb, 0, none⟩) s1.size s1.size) := cell_of hat5.wr rfl
        have c25 : w5.cell? ⟨b, 2, none⟩ = some (.int .i64 s1.buf.length) := cell_of hat5.wr rfl
        obtain ⟨n1, n2, n3, g1, g2, l1, l2, hwr, ⟨cs, hbf, hcl, hct⟩, hsk⟩ := id hat5
        have hblt : s1.buf.length < s1.size := by rw [Hb1.out]; have := hok1.size; simp; omega
        have hbi : ((s1.buf.length : Int) < s1.size) := by omega
        have hb0 : ((0 : Int) ≤ s1.buf.length) := by omega
        have cb : w5.cell? ⟨bb, s1.buf.length, none⟩ = some (cs[s1.buf.length]'(by omega)) := cell_of hbf (by simp)
        have fb : w5.frozen? ⟨bb, s1.buf.length, none⟩ = false := frozen_of hbf
        generalize cs[s1.buf.length]'(by omega) = old at cb
        have n1' : bb ≠ b := fun e => n1 e.symm
        have HW := Lib.hid hwr
        have HB := Lib.hid hbf
        have HC := Lib.hid hcl
        have HT := Lib.hid hct
        have HSk := Lib.hid hsk
        have hsz := hok1.size
        clear hwr hbf hcl hct hsk
        go_wp2_with fail
        go_region
        go_wp2
        go_ret
        have hend := wbyte_end (ea := ea) (B := B) (c := c) (w0 := w) (gv0 := gv) (W := w5.drew) n1 n2 n3 g1 g2 l1 l2 HW.out HB.out HC.out HT.out HSk.out.drew hblt HG5.out HK5.out.drew
        refine ⟨{ s1 with buf := s1.buf ++ [c] }, by simp [errW, He1.out], ⟨?_, fun _ _ => ?_⟩, hend⟩
        · unfold Wr.Wrote
          rw [He.out]
          refine ⟨by first | (simp; done) | (simp; split <;> omega), ?_, ?_⟩
          · intro _
            simp [He1.out]
          · have h7 := Hst1.out.trans He1.out (Wr.fill_step hok1 He1.out [c] (by unfold Wr.avail; simp; omega))
            simpa using h7
        · unfold blen
          rw [if_pos hfull]
          simp [Hb1.out]
    · have hav : ¬ ((st.size : Int) - st.buf.length) ≤ 0 := by omega
      have hav2 : decide (((st.size : Int) - st.buf.length) ≤ 0) = false := by simpa using hav
      go_enter Tryd.func49, Tryd.ntmps49
      go_wp2_with fail
      refine (available_any ea _ b bb bs gv st B Hh.out hok).mono ?_
      rintro e wa ⟨rfl, hwa, hna⟩
      have HK5 : Hid (Keep (wrSet b bb bs gv) w wa) := hna.mono (fun _ _ f => f.elim)
      clear hna
      have f2a : wa.frozen? ⟨b, 2, none⟩ = false := frozen_of hwa.wr
      have c1a : wa.cell? ⟨b, 1, none⟩ = some (.slice (some ⟨bb, 0, none⟩) st.size st.size) := cell_of hwa.wr rfl
      have c2a : wa.cell? ⟨b, 2, none⟩ = some (.int .i64 st.buf.length) := cell_of hwa.wr rfl
      obtain ⟨n1, n2, n3, g1, g2, l1, l2, hwr, ⟨cs, hbf, hcl, hct⟩, hsk⟩ := id hwa
      have hblt : st.buf.length < st.size := by omega
      have hbi : ((st.buf.length : Int) < st.size) := by omega
      have hb0 : ((0 : Int) ≤ st.buf.length) := by omega
      have cb : wa.cell? ⟨bb, st.buf.length, none⟩ = some (cs[st.buf.length]'(by omega)) := cell_of hbf (by simp)
      have fb : wa.frozen? ⟨bb, st.buf.length, none⟩ = false := frozen_of hbf
      generalize cs[st.buf.length]'(by omega) = old at cb
      have n1' : bb ≠ b := fun e => n1 e.symm
      have HW := Lib.hid hwr
      have HB := Lib.hid hbf
      have HC := Lib.hid hcl
      have HT := Lib.hid hct
      have HSk := Lib.hid hsk
      have hsz := hok.size
      clear hwr hbf hcl hct hsk
      go_wp2_with fail
      go_region
      go_wp2
      go_ret
      have hend := wbyte_end (ea := ea) (B := B) (c := c) (w0 := w) (gv0 := gv) (W := wa.drew) n1 n2 n3 g1 g2 l1 l2 HW.out HB.out HC.out HT.out HSk.out.drew hblt (fun _ hk => .inl hk) HK5.out.drew
      refine ⟨{ st with buf := st.buf ++ [c] }, by simp [errW, He.out], ⟨?_, fun _ _ => ?_⟩, hend⟩
      · unfold Wr.Wrote
        rw [He.out]
        refine ⟨by first | (simp; done) | (simp; split <;> omega), ?_, ?_⟩
        · intro _
          simp [He.out]
        · have h7 := Wr.fill_step hok He.out [c] (by unfold Wr.avail; simp; omega)
          simpa [He.out] using h7
      · unfold blen
        rw [if_neg hfull]
        simp
end Go.Proofs.YtjihbkmbbcdnfaaDoor
