/-
  WriteString in every case, Reset, and the walk of WriteRune.
-/
import Derived.Test.YtjihbkmbbcdnfaaDoorRune
namespace Go.Proofs.YtjihbkmbbcdnfaaDoor
open Go.RowKit

def SBad (ea : Addr) (w : World) (b bb bs : Nat) (gv : Value) (st : Wr) (B : Nat) (p0 p nn : Value) (wr : World) : Prop :=
  p = p0 ∧ nn = .int .i64 0 ∧ WrAt ea wr b bb bs gv st B ∧ New w wr

set_option maxRecDepth 100000 in
set_option maxHeartbeats 1000000 in
theorem writeString_bad (ea : Addr) (w : World) (b bb bs : Nat) (gv : Value) (st : Wr) (B : Nat) (t : ByteArray) (htl : t.size ≤ 140737488355328) (h : WrAt ea w b bb bs gv st B) (hok : st.Ok) (he : st.err = true) :
    Calls Tryd.prog 51 #[.pointer (some ⟨b, 0, none⟩), .string t] w fun e w' => e = .returned (.tuple #[.int .i64 0, esV ea]) ∧ WrAt ea w' b bb bs gv st B ∧ New w w' := by
  have H0 : Hid (SBad ea w b bb bs gv st B (.string t) (.string t) (.int .i64 0) w) := ⟨rfl, rfl, h, Keep.refl _ _⟩
  have He := Lib.hid he
  have h1 := hok.size
  have h2 := hok.buf
  clear h he
  go_enter Tryd.func51, Tryd.ntmps51
  go_wp2_with fail
  go_loopg [1, 6, 7, 8, 9] 0 (fun g p sw tr nn n9 wr => SBad ea w b bb bs gv st B (.string t) p nn wr)
  case atStart => exact H0.out
  case round =>
    obtain ⟨rfl, rfl, hat, hn⟩ := hrel
    have Hat := Lib.hid hat
    clear hat
    by_cases hav : (t.size : Int) ≤ (st.size : Int) - st.buf.length
    all_goals
      go_wp2_with fail
      refine (available_any ea _ b bb bs gv st B Hat.out hok).mono ?_
      rintro e wa ⟨rfl, hwa, hna⟩
      have c0 : wa.cell? ⟨b, 0, none⟩ = some (.iface 97 (.pointer (some ea))) := cell_of hwa.wr (by simp [errW, He.out, esV])
      have Hwa := Lib.hid hwa
      have HKa := Lib.hid (hn.then hna)
      clear hwa hna
      go_wp2_with fail
      go_quiet (fail)
      go_wp2
      go_ret2
      exact ⟨rfl, Hwa.out.drewN _, HKa.out.drewN _⟩

/-- WriteString in every case. -/
theorem writeString_any (ea : Addr) (w : World) (b bb bs : Nat) (gv : Value) (st : Wr) (B : Nat) (t : ByteArray) (l : List UInt8) (h : WrAt ea w b bb bs gv st B) (hf : st.Fits)
    (hp : t.data.toList = l) (hl : st.snk.got.length + st.buf.length + l.length ≤ 140737488355328)
    (hes : w.cell? ⟨7, 0, none⟩ = some (esV ea)) (hgl : 7 < B) :
    Calls Tryd.prog 51 #[.pointer (some ⟨b, 0, none⟩), .string t] w fun e w' => ∃ n s, e = .returned (.tuple #[.int .i64 (n : Nat), errW ea s.err]) ∧ (st.Wrote l n s ∧ (st.err = false → s.err = false → s.buf.length = slen st.size st.buf.length l.length)) ∧ WrOut ea w b bb bs gv s B w' := by
  cases he : st.err with
  | false => exact (writeString_ok ea w b bb bs gv st B t l h hf he hp hl hes hgl).mono fun _ _ ⟨n, s, h1, h2, h3⟩ => ⟨n, s, h1, ⟨h2.1, fun _ => h2.2⟩, h3⟩
  | true =>
    refine (writeString_bad ea w b bb bs gv st B t (by rw [Lib.size_eq, hp]; omega) h hf.ok he).mono fun e w' ⟨h1, h2, h3⟩ => ?_
    refine ⟨0, st, by rw [h1, he]; rfl, ⟨?_, (fun e => by cases e)⟩, gv, h2, fun _ hi => .inl hi, h3.mono (fun _ _ f => f.elim)⟩
    unfold Wr.Wrote
    rw [he]
    exact ⟨rfl, rfl⟩

/-- Write in every case, with what is in the buffer. -/
theorem write_any2 (ea : Addr) (w : World) (b bb bs : Nat) (gv : Value) (st : Wr) (B : Nat) (p : Value) (l : List UInt8) (h : WrAt ea w b bb bs gv st B) (hf : st.Fits)
    (hp : BytesAt w p l) (hpb : ∀ i, Value.inBlock p i → ¬ wrSet b bb bs gv i) (hl : st.snk.got.length + st.buf.length + l.length ≤ 140737488355328)
    (hes : w.cell? ⟨7, 0, none⟩ = some (esV ea)) (hgl : 7 < B) :
    Calls Tryd.prog 37 #[.pointer (some ⟨b, 0, none⟩), p] w fun e w' => ∃ n s, e = .returned (.tuple #[.int .i64 (n : Nat), errW ea s.err]) ∧ (st.Wrote l n s ∧ (st.err = false → s.err = false → s.buf.length = wlen st.size st.buf.length l.length)) ∧ WrOut ea w b bb bs gv s B w' := by
  cases he : st.err with
  | false => exact (write_ok2 ea w b bb bs gv st B p l h hf he hp hpb hl hes hgl).mono fun _ _ ⟨n, s, h1, h2, h3⟩ => ⟨n, s, h1, ⟨h2.1, fun _ => h2.2⟩, h3⟩
  | true =>
    obtain ⟨a, c, rfl, _⟩ := id hp
    refine (write_bad ea w b bb bs gv st B a _ c h hf.ok he).mono fun e w' ⟨h1, h2, h3⟩ => ?_
    refine ⟨0, st, by rw [h1, he]; rfl, ⟨?_, (fun e => by cases e)⟩, gv, h2, fun _ hi => .inl hi, h3.mono (fun _ _ f => f.elim)⟩
    unfold Wr.Wrote
    rw [he]
    exact ⟨rfl, rfl⟩

/-- What is in the buffer behind WriteRune. -/
def rlen (s m : Nat) (r : Int) : Nat := if 0 ≤ r ∧ r < 128 then blen s m else if s - m < 4 then (if s < 4 then slen s 0 (runeB r).length else (runeB r).length) else m + (runeB r).length

theorem runeB_ascii (r : Int) (h0 : 0 ≤ r) (h1 : r < 128) : ∃ c : UInt8, runeB r = [c] ∧ (c.toNat : Int) = r := by
  refine ⟨r.toNat.toUInt8, ?_, ?_⟩
  · unfold runeB Lib.encodeRune
    rw [Lib.encodeRuneZ_one h0 (by omega)]
    rfl
  · simp; omega

set_option maxRecDepth 100000 in
set_option maxHeartbeats 2000000 in
theorem writeRune_any (ea : Addr) (w : World) (b bb bs : Nat) (gv : Value) (st : Wr) (B : Nat) (r : Int) (hlo : -2147483648 ≤ r) (hhi : r ≤ 2147483647) (h : WrAt ea w b bb bs gv st B) (hf : st.Fits) (hl : st.snk.got.length + st.buf.length + 4 ≤ 140737488355328)
    (hes : w.cell? ⟨7, 0, none⟩ = some (esV ea)) (hgl : 7 < B) :
    Calls Tryd.prog 50 #[.pointer (some ⟨b, 0, none⟩), .int .i32 r] w fun e w' => ∃ n s, e = .returned (.tuple #[.int .i64 (n : Nat), errW ea s.err]) ∧
      (st.Wrote (runeB r) n s ∧ (st.err = false → s.err = false → s.buf.length = rlen st.size st.buf.length r)) ∧ WrOut ea w b bb bs gv s B w' := by
  have hrl := runeB_length r
  by_cases hasc : 0 ≤ r ∧ r < 128
  · obtain ⟨c, hc1, hc2⟩ := runeB_ascii r hasc.1 hasc.2
    have ha0 := hasc.1
    have ha1 := hasc.2
    subst hc2
    have Hc1 := Lib.hid hc1
    have HW := Lib.hid (writeByte_any ea w b bb bs gv st B c h hf (by omega) hes hgl)
    have Hasc := Lib.hid hasc
    clear h hf hes hc1 hrl hasc
    go_enter Tryd.func50, Tryd.ntmps50
    go_wp2_with fail
    refine HW.out.mono ?_
    rintro e w1 ⟨s, rfl, hwr, hout⟩
    have Hwr := Lib.hid hwr
    have Hout := Lib.hid hout
    clear hwr hout
    cases he : s.err with
    | true =>
      have He := Lib.hid he
      clear he
      unfold errW esV
      go_wp2
      go_ret2
      refine ⟨0, s, by rw [He.out]; rfl, ⟨?_, (fun _ e => by rw [He.out] at e; cases e)⟩, Hout.out⟩
      have := Hwr.out.1
      rw [He.out] at this
      rw [Hc1.out]
      simpa using this
    | false =>
      have He := Lib.hid he
      clear he
      rw [errW_f]
      go_wp2
      go_ret2
      refine ⟨1, s, by rw [He.out]; rfl, ⟨?_, fun h1 h2 => ?_⟩, Hout.out⟩
      · have := Hwr.out.1
        rw [He.out] at this
        rw [Hc1.out]
        simpa using this
      · rw [Hwr.out.2 h1 h2]
        unfold rlen
        rw [if_pos Hasc.out]
  · have hna : r < 0 ∨ 128 ≤ r := by omega
    have hbig : ¬ (IntKind.u32.wrap r < 128) := by have := wrap_u32_big r hlo hhi hna; omega
    cases he : st.err with
    | true =>
      have c0 : w.cell? ⟨b, 0, none⟩ = some (.iface 97 (.pointer (some ea))) := cell_of h.wr (by simp [errW, he, esV])
      have H := Lib.hid h
      have He := Lib.hid he
      clear h hf hes he hasc
      rcases hna with hn | hn
      all_goals
        go_enter Tryd.func50, Tryd.ntmps50
        go_wp2_with fail
        go_quiet (fail)
        go_wp2
        go_ret2
        refine ⟨0, st, by rw [He.out]; rfl, ⟨?_, (fun e => by cases e)⟩, gv, H.out.drewN _, fun _ hk => .inl hk, (Keep.refl _ _).drewN _⟩
        unfold Wr.Wrote
        rw [He.out]
        exact ⟨rfl, rfl⟩
    | false =>
      have c0 : w.cell? ⟨b, 0, none⟩ = some .nilIface := cell_of h.wr (by simp [errW, he])
      have He := Lib.hid he
      have Hh := Lib.hid h
      have Hes := Lib.hid hes
      have hok := hf.ok
      have hokb := hf.ok.buf
      have hoks := hf.ok.size
      have Hna := Lib.hid hna
      have Hasc := Lib.hid hasc
      clear h hes he hasc
      rcases hna with hn | hn
      all_goals
        have hna := Hna.out
        by_cases hlow : (st.size : Int) - st.buf.length < 4
        · obtain ⟨hst1, hst2⟩ := Wr.flush_step hok He.out
          obtain ⟨s1, hs1⟩ : ∃ s1, s1 = st.flush := ⟨_, rfl⟩
          rw [← hs1] at hst1 hst2
          have Hs1 := Lib.hid hs1
          have Hst1 := Lib.hid hst1
          have Hst2 := Lib.hid hst2
          clear hst1 hst2 hs1
          cases he1 : s1.err with
          | true =>
            have He1 := Lib.hid he1
            clear he1
            go_enter Tryd.func50, Tryd.ntmps50
            go_wp2_with fail
            refine (available_any ea _ b bb bs gv st B Hh.out hok).mono ?_
            rintro e wa ⟨rfl, hwa, hna2⟩
            have Hwa := Lib.hid hwa
            have Hes2 := Lib.hid (New.cellAt hna2 Hes.out)
            have HNa := Lib.hid hna2
            clear hwa hna2
            go_wp2_with fail
            refine (flush_any ea _ b bb bs gv st B Hwa.out hf Hes2.out hgl).mono ?_
            rw [← Hs1.out, He1.out]
            rintro e w5 ⟨rfl, g5, hat5, hg5, hk5⟩
            have c05 : w5.cell? ⟨b, 0, none⟩ = some (.iface 97 (.pointer (some ea))) := cell_of hat5.wr (by simp [errW, He1.out, esV])
            have hwsz := HNa.out.size
            have HG5 : Hid (∀ i, g5.ownBlock = some i → gv.ownBlock = some i ∨ w.heap.size ≤ i) := fun i hi => by
              rcases hg5 i hi with h | h
              · exact .inl h
              · right; omega
            have HK5 : Hid (Keep (wrSet b bb bs gv) w w5) := (HNa.out.mono (fun _ _ f => f.elim)).trans hk5 (fun _ _ e => e)
            have Hat5 := Lib.hid hat5
            clear hat5 hg5 hk5 hwsz
            unfold errW esV
            go_wp2_with fail
            go_quiet (fail)
            go_wp2
            go_ret2
            refine ⟨0, s1, by rw [He1.out]; rfl, ⟨?_, (fun _ e => by rw [He1.out] at e; cases e)⟩, g5, Hat5.out.drewN _, HG5.out, HK5.out.drewN _⟩
            unfold Wr.Wrote
            rw [He.out]
            refine ⟨Nat.zero_le _, (fun e => by rw [He1.out] at e; cases e), ?_⟩
            have := Hst1.out.more He1.out (runeB r)
            simpa using this
          | false =>
            have He1 := Lib.hid he1
            have Hb1 := Lib.hid (Hst2.out he1)
            clear he1
            have hok1 := Hst1.out.ok
            have hok1s := hok1.size
            have Hsz1 := Lib.hid Hst1.out.size
            have hbl1 : s1.buf.length = 0 := by rw [Hb1.out]; rfl
            have Hbl1 := Lib.hid hbl1
            have hf1 : s1.Fits := hf.step Hst1.out (by simp; omega)
            have hl1 : s1.snk.got.length + s1.buf.length + (runeB r).length ≤ 140737488355328 := by have := Hst1.out.len; simp at this; omega
            clear hbl1
            go_enter Tryd.func50, Tryd.ntmps50
            go_wp2_with fail
            refine (available_any ea _ b bb bs gv st B Hh.out hok).mono ?_
            rintro e wa ⟨rfl, hwa, hna2⟩
            have Hwa := Lib.hid hwa
            have Hes2 := Lib.hid (New.cellAt hna2 Hes.out)
            have HNa := Lib.hid hna2
            clear hwa hna2
            go_wp2_with fail
            refine (flush_any ea _ b bb bs gv st B Hwa.out hf Hes2.out hgl).mono ?_
            rw [← Hs1.out, He1.out]
            rintro e w5 ⟨rfl, g5, hat5, hg5, hk5⟩
            have c05 : w5.cell? ⟨b, 0, none⟩ = some .nilIface := cell_of hat5.wr (by simp [errW, He1.out])
            have hwsz := HNa.out.size
            have HG7 : Hid (∀ i, g5.ownBlock = some i → gv.ownBlock = some i ∨ w.heap.size ≤ i) := fun i hi => by
              rcases hg5 i hi with h | h
              · exact .inl h
              · right; omega
            have hK5 : Keep (wrSet b bb bs gv) w w5 := (HNa.out.mono (fun _ _ f => f.elim)).trans hk5 (fun _ _ e => e)
            have HK5 := Lib.hid hK5
            have Hat5 := Lib.hid hat5
            have Hng : Hid (¬ wrSet b bb bs gv 7) := fun e => by have := (Hh.out.blocks _ e).1; omega
            clear hat5 hg5 hk5 hwsz hK5
            rw [errW_f]
            go_wp2_with fail
            refine (available_any ea _ b bb bs g5 s1 B Hat5.out hok1).mono ?_
            rintro e w7 ⟨rfl, hat7, hn7⟩
            have HK7 := Lib.hid (HK5.out.then hn7)
            have Hes7 := Lib.hid (HK7.out.cellAt Hes.out Hng.out)
            clear hn7 c05
            by_cases hsm : s1.size < 4
            · have hsm2 : (s1.size : Int) - s1.buf.length < 4 := by have := Hbl1.out; omega
              have Hat7 := Lib.hid hat7
              clear hat7
              go_wp2_with fail
              refine (writeString_any ea _ b bb bs g5 s1 B (Utf8.encode r) (runeB r) Hat7.out hf1 (encode_runeB r) hl1 Hes7.out hgl).mono ?_
              rintro e w8 ⟨n, s8, rfl, hwr8, g8, hat8, hg8, hk8⟩
              have Hwr8 := Lib.hid hwr8
              have hwsz := HK7.out.size
              have HO8 : Hid (WrOut ea w b bb bs gv s8 B w8) := ⟨g8, hat8, fun i hi => by
                rcases hg8 i hi with h | h
                · exact HG7.out i h
                · right; omega, HK7.out.trans hk8 (fun i hi e => by
                  rcases e with e | e | e | e
                  · exact .inl e
                  · exact .inr (.inl e)
                  · exact .inr (.inr (.inl e))
                  · rcases HG7.out i e with h | h
                    · exact .inr (.inr (.inr h))
                    · omega)⟩
              clear hwr8 hat8 hg8 hk8 hwsz
              go_wp2
              go_ret2
              refine ⟨n, s8, rfl, ⟨?_, fun _ h8 => ?_⟩, HO8.out⟩
              · have h9 := Hwr8.out.1
                unfold Wr.Wrote at h9 ⊢
                rw [He1.out] at h9
                rw [He.out]
                refine ⟨h9.1, h9.2.1, ?_⟩
                have := Hst1.out.trans He1.out h9.2.2
                simpa using this
              · rw [Hwr8.out.2 He1.out h8, Hbl1.out, Hsz1.out]
                unfold rlen
                rw [if_neg Hasc.out, if_pos (by omega), if_pos (by have := Hsz1.out; omega)]
            · have hsm2 : ¬ ((s1.size : Int) - s1.buf.length < 4) := by have := Hbl1.out; omega
              obtain ⟨n1, n2, n3, g1, g2, l1, l2, hwr, ⟨cs, hbf, hcl, hct⟩, hsk⟩ := id hat7
              have c1 : w7.cell? ⟨b, 1, none⟩ = some (.slice (some ⟨bb, 0, none⟩) s1.size s1.size) := cell_of hwr rfl
              have c2 : w7.cell? ⟨b, 2, none⟩ = some (.int .i64 s1.buf.length) := cell_of hwr rfl
              have hroom : s1.buf.length + 4 ≤ s1.size := by rw [Hb1.out]; simp; have := Hsz1.out; omega
              have hokz := hok1.size
              obtain ⟨av, hsl, hav1, _⟩ := slice_from (P := Tryd.prog) 27 5 Tryd.underlying27 sizeByte (some ⟨bb, 0, none⟩) s1.size s1.size s1.buf.length (by omega) (Nat.le_refl _) .i64
              have hav2 : av = some ⟨bb, s1.buf.length, none⟩ := by rw [hav1 (by omega)]; exact congrArg some (addr0_add _ _)
              subst hav2
              have HS2 := Lib.hid (fun (w' : World) (hk : Keep (fun i => i = bb) w7.drew w') =>
                (show w'.cell? ⟨b, 1, none⟩ = some (.slice (some ⟨bb, 0, none⟩) s1.size s1.size) ∧ w'.cell? ⟨b, 2, none⟩ = some (.int .i64 s1.buf.length) from ⟨hk.cellAt c1 n1, hk.cellAt c2 n1⟩))
              have HB : Hid (w7.drew.heap[bb]? = some (.cells cs.toArray 5 (0, 0))) := hbf
              have HW := Lib.hid hwr
              have HC := Lib.hid hcl
              have HT := Lib.hid hct
              have HSk := Lib.hid hsk
              have hk4 := runeB_length r
              have Hr1 : Hid ((runeB r).length ≤ s1.size - s1.buf.length) := by show _ ≤ _; omega
              have Hr2 : Hid (s1.buf.length + (runeB r).length ≤ cs.length) := by show _ ≤ _; rw [hcl]; omega
              obtain ⟨L, hL⟩ : ∃ L, L = (runeB r).length := ⟨_, rfl⟩
              have HL := Lib.hid hL
              have hL4 : L ≤ 4 := by omega
              clear hwr hbf hcl hct hsk hav1 hL hk4
              go_wp2_with fail
              go_region_held3 (fun w' => w'.cell? ⟨b, 1, none⟩ = some (.slice (some ⟨bb, 0, none⟩) s1.size s1.size) ∧ w'.cell? ⟨b, 2, none⟩ = some (.int .i64 s1.buf.length))
                (first | exact ⟨c1, c2⟩ | exact HS2.out _ hkc)
                (first | (go_at_call 56; refine (encodeRune_at bb s1.buf.length _ _ r hlo hhi hna _ cs HB.out Hr1.out Hr2.out).mono ?_; rw [← HL.out]; rintro e w3 ⟨rfl, hb3, hkc⟩))
              rename_i hh2
              have Hwr3 := Lib.hid ((hkc.block b (Array.getElem?_eq_some_iff.1 HW.out).1 n1).trans HW.out)
              have q2 : w3.cell? ⟨b, 2, none⟩ = some (.int .i64 s1.buf.length) := cell_of Hwr3.out rfl
              have f23 : w3.frozen? ⟨b, 2, none⟩ = false := frozen_of Hwr3.out
              have HKC := Lib.hid (Keep.ofDrew hkc)
              clear hh2 HS2 hsl hkc c1 c2
              go_wp2
              go_ret2
              have kk : Keep (wrSet b bb bs gv) w w3 := HK7.out.trans HKC.out (fun i _ e => .inr (.inl e))
              refine ⟨L, { s1 with buf := s1.buf ++ runeB r }, by simp [errW, He1.out], ⟨?_, fun _ _ => ?_⟩, wrOut_of (cs := splice cs s1.buf.length (bytesV (runeB r))) n1 n2 n3 l1 l2 g1 g2 HG7.out ((heap_set Hwr3.out _).trans ?_) ?_ ?_ ?_ ?_ (kk.setW _ _)⟩
              · unfold Wr.Wrote
                rw [He.out]
                refine ⟨by rw [HL.out]; exact Nat.le_refl _, fun _ => HL.out, ?_⟩
                have h7 := Hst1.out.trans He1.out (Wr.fill_step hok1 He1.out (runeB r) (by unfold Wr.avail; have := Hr1.out; omega))
                simpa using h7
              · show (s1.buf ++ runeB r).length = _
                rw [Hb1.out]
                unfold rlen
                rw [if_neg Hasc.out, if_pos (by omega), if_neg (by have := Hsz1.out; omega)]
                simp
              · simp; rw [HL.out]
              · rw [Below.heap_setCell _ _ _ _ (fun e => n1 e.symm)]; exact hb3.out
              · rw [length_splice _ _ _ (by rw [bytesV_length]; exact Hr2.out)]; exact HC.out
              · show (splice cs s1.buf.length (bytesV (runeB r))).take (s1.buf ++ runeB r).length = bytesV (s1.buf ++ runeB r)
                rw [bytesV_append, ← HT.out, List.length_append, ← bytesV_length (runeB r)]
                exact take_splice (by rw [bytesV_length]; exact Hr2.out)
              · exact (HSk.out.keep HKC.out (fun e => n3 e.symm) (fun i hi e => g2 (e ▸ hi))).keep ((Keep.refl _ _).set1 _ _) (fun e => n2 e.symm) (fun i hi e => g1 (e ▸ hi))
        · go_enter Tryd.func50, Tryd.ntmps50
          go_wp2_with fail
          refine (available_any ea _ b bb bs gv st B Hh.out hok).mono ?_
          rintro e wa ⟨rfl, hwa, hna2⟩
          have HKa : Hid (Keep (wrSet b bb bs gv) w wa) := hna2.mono (fun _ _ f => f.elim)
          clear hna2
          obtain ⟨n1, n2, n3, g1, g2, l1, l2, hwr, ⟨cs, hbf, hcl, hct⟩, hsk⟩ := id hwa
          have c1 : wa.cell? ⟨b, 1, none⟩ = some (.slice (some ⟨bb, 0, none⟩) st.size st.size) := cell_of hwr rfl
          have c2 : wa.cell? ⟨b, 2, none⟩ = some (.int .i64 st.buf.length) := cell_of hwr rfl
          have hroom : st.buf.length + 4 ≤ st.size := by omega
          have hokz := hok.size
          obtain ⟨av, hsl, hav1, _⟩ := slice_from (P := Tryd.prog) 27 5 Tryd.underlying27 sizeByte (some ⟨bb, 0, none⟩) st.size st.size st.buf.length (by omega) (Nat.le_refl _) .i64
          have hav2 : av = some ⟨bb, st.buf.length, none⟩ := by rw [hav1 (by omega)]; exact congrArg some (addr0_add _ _)
          subst hav2
          have HS2 := Lib.hid (fun (w' : World) (hk : Keep (fun i => i = bb) wa.drew w') =>
            (show w'.cell? ⟨b, 1, none⟩ = some (.slice (some ⟨bb, 0, none⟩) st.size st.size) ∧ w'.cell? ⟨b, 2, none⟩ = some (.int .i64 st.buf.length) from ⟨hk.cellAt c1 n1, hk.cellAt c2 n1⟩))
          have HB : Hid (wa.drew.heap[bb]? = some (.cells cs.toArray 5 (0, 0))) := hbf
          have HW := Lib.hid hwr
          have HC := Lib.hid hcl
          have HT := Lib.hid hct
          have HSk := Lib.hid hsk
          have hk4 := runeB_length r
          have Hr1 : Hid ((runeB r).length ≤ st.size - st.buf.length) := by show _ ≤ _; omega
          have Hr2 : Hid (st.buf.length + (runeB r).length ≤ cs.length) := by show _ ≤ _; rw [hcl]; omega
          obtain ⟨L, hL⟩ : ∃ L, L = (runeB r).length := ⟨_, rfl⟩
          have HL := Lib.hid hL
          have hL4 : L ≤ 4 := by omega
          clear hwr hbf hcl hct hsk hav1 hL hk4
          go_wp2_with fail
          go_region_held3 (fun w' => w'.cell? ⟨b, 1, none⟩ = some (.slice (some ⟨bb, 0, none⟩) st.size st.size) ∧ w'.cell? ⟨b, 2, none⟩ = some (.int .i64 st.buf.length))
            (first | exact ⟨c1, c2⟩ | exact HS2.out _ hkc)
            (first | (go_at_call 56; refine (encodeRune_at bb st.buf.length _ _ r hlo hhi hna _ cs HB.out Hr1.out Hr2.out).mono ?_; rw [← HL.out]; rintro e w3 ⟨rfl, hb3, hkc⟩))
          rename_i hh2
          have Hwr3 := Lib.hid ((hkc.block b (Array.getElem?_eq_some_iff.1 HW.out).1 n1).trans HW.out)
          have q2 : w3.cell? ⟨b, 2, none⟩ = some (.int .i64 st.buf.length) := cell_of Hwr3.out rfl
          have f23 : w3.frozen? ⟨b, 2, none⟩ = false := frozen_of Hwr3.out
          have HKC := Lib.hid (Keep.ofDrew hkc)
          clear hh2 HS2 hsl hkc c1 c2
          go_wp2
          go_ret2
          have kk : Keep (wrSet b bb bs gv) w w3 := HKa.out.trans HKC.out (fun i _ e => .inr (.inl e))
          refine ⟨L, { st with buf := st.buf ++ runeB r }, by simp [errW, He.out], ⟨?_, fun _ _ => ?_⟩, wrOut_of (cs := splice cs st.buf.length (bytesV (runeB r))) n1 n2 n3 l1 l2 g1 g2 (fun _ hk => .inl hk) ((heap_set Hwr3.out _).trans ?_) ?_ ?_ ?_ ?_ (kk.setW _ _)⟩
          · unfold Wr.Wrote
            rw [He.out]
            refine ⟨by rw [HL.out]; exact Nat.le_refl _, fun _ => HL.out, ?_⟩
            have h7 := Wr.fill_step hok He.out (runeB r) (by unfold Wr.avail; have := Hr1.out; omega)
            simpa [He.out] using h7
          · show (st.buf ++ runeB r).length = _
            unfold rlen
            rw [if_neg Hasc.out, if_neg (by omega)]
            simp
          · simp; rw [HL.out]
          · rw [Below.heap_setCell _ _ _ _ (fun e => n1 e.symm)]; exact hb3.out
          · rw [length_splice _ _ _ (by rw [bytesV_length]; exact Hr2.out)]; exact HC.out
          · show (splice cs st.buf.length (bytesV (runeB r))).take (st.buf ++ runeB r).length = bytesV (st.buf ++ runeB r)
            rw [bytesV_append, ← HT.out, List.length_append, ← bytesV_length (runeB r)]
            exact take_splice (by rw [bytesV_length]; exact Hr2.out)
          · exact (HSk.out.keep HKC.out (fun e => n3 e.symm) (fun i hi e => g2 (e ▸ hi))).keep ((Keep.refl _ _).set1 _ _) (fun e => n2 e.symm) (fun i hi e => g1 (e ▸ hi))
end Go.Proofs.YtjihbkmbbcdnfaaDoor
