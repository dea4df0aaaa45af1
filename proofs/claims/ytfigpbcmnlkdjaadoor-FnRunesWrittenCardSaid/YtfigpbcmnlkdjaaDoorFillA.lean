/-
  The walk of fill, whatever comes, where the end is io.EOF.
-/
import Derived.Test.YtfigpbcmnlkdjaaDoorFill
namespace Go.Proofs.YtfigpbcmnlkdjaaDoor
open Go.RowKit

theorem Rd.down_fill (st : Rd) (h : st.r ≤ st.buf.length) : st.down.fill = st.fill := by
  have h1 : st.down.avail = st.avail := by unfold Rd.avail Rd.down Rd.rest; simp
  have h2 : st.down.rest = st.rest := by unfold Rd.rest Rd.down Rd.rest; simp
  unfold Rd.fill
  rw [h1, h2]
  rfl

theorem Rd.down_zero (st : Rd) (h : st.r = 0) : st.down = st := by
  obtain ⟨src, size, buf, r, err, lb, lr⟩ := st
  simp only at h
  subst h
  rfl

set_option maxRecDepth 100000 in
set_option maxHeartbeats 4000000 in
theorem fill_any (w : World) (b bb br : Nat) (st : Rd) (a0 : Addr) (ev : Evs) (hev : ev true = .iface 93 (.pointer (some a0))) (h : RdAt ev w b bb br st) (okk : st.Ok) (her : st.err = false) (hs : st.size ≤ 32767) (hlt0 : st.avail < st.size)
    (hd : st.src.data.length ≤ 140737488355328) (hc : st.src.cuts.length ≤ 140737488355328) (he : st.src.eof = true) (hg : w.cell? ⟨1, 0, none⟩ = some (.iface 93 (.pointer (some a0)))) (hg0 : 1 ≠ b) (hg1 : 1 ≠ br) (hg2 : 1 ≠ bb) :
    Calls Tryd.prog 33 #[.pointer (some ⟨b, 0, none⟩)] w fun e w' => e = .returned (.tuple #[]) ∧ RdAt ev w' b bb br st.fill ∧ Keep (fun i => i = b ∨ i = bb ∨ i = br) w w' := by
  rw [← Rd.down_fill st okk.r]
  have HR := Lib.hid h
  have Hok := Lib.hid okk
  have Hhev := Lib.hid hev
  have Hher0 := Lib.hid her
  have Hhg := Lib.hid hg
  have Hlt0 := Lib.hid hlt0
  clear h okk hev her hg hlt0
  have hbR : st.r ≤ 32767 := by have h1 := Hok.out.r; have h2 := Hok.out.w; omega
  go_enter Tryd.func33, Tryd.ntmps33
  have c2' : w.cell? ⟨b, 2, none⟩ = some (.int .i64 st.r) := cell_of HR.out.rd rfl
  go_upto_if 9 with fail
  go_cut [] (fun wc => RdAt ev wc b bb br st.down ∧ Keep (fun i => i = b ∨ i = bb ∨ i = br) w wc)
  case first =>
    obtain ⟨n1, n2, n3, hrd, ⟨cs, hbf, hcs, hct⟩, hsr⟩ := id HR.out
    have hevn : errV ev st.src st.err = .nilIface := by rw [Hher0.out]; rfl
    rw [hevn] at hrd
    have hrle := Hok.out.r
    have hwle := Hok.out.w
    by_cases hr : st.r = 0
    · have hdn := Rd.down_zero st hr
      have hr' : ¬ (0 : Int) < st.r := by omega
      have hr2 : ¬ 0 < st.r := by omega
      have Hdn := Lib.hid hdn
      clear hrd hbf hcs hct hsr hevn hr hdn hrle hwle
      go_wp2
      go_meet
      rw [Hdn.out]
      exact ⟨HR.out, Keep.refl _ _⟩
    · obtain ⟨R, hR⟩ : ∃ R, st.r = R := ⟨_, rfl⟩
      obtain ⟨B, hB⟩ : ∃ B, st.buf.length = B := ⟨_, rfl⟩
      rw [hR, hB] at hrd hrle
      rw [hB] at hct hwle
      have hR0 : 0 < R := by omega
      have hR0' : (0 : Int) < R := by omega
      have c0 : w.cell? ⟨b, 0, none⟩ = some (.slice (some ⟨bb, 0, none⟩) st.size st.size) := cell_of hrd rfl
      have c2 : w.cell? ⟨b, 2, none⟩ = some (.int .i64 R) := cell_of hrd rfl
      have c3 : w.cell? ⟨b, 3, none⟩ = some (.int .i64 B) := cell_of hrd rfl
      obtain ⟨a1, hC, hC1, hC2⟩ := slice_cut (P := Tryd.prog) 23 5 Tryd.underlying23 sizeByte (some ⟨bb, 0, none⟩) st.size st.size R B hrle hwle .i64 .i64
      have hxl : (bytesV st.rest).length = B - R := by rw [bytesV_length, Rd.rest_length]; unfold Rd.avail; rw [hB, hR]
      have Hsrc : Hid (0 < (bytesV st.rest).length → ∃ ad, a1 = some ad ∧ CellsAt w.drew ad (bytesV st.rest)) := by
        intro hp
        rw [hxl] at hp
        have e1 : a1 = some ⟨bb, R, none⟩ := by rw [hC1 (by omega)]; simp [Addr.add]; omega
        refine ⟨_, e1, ?_⟩
        refine cells_of_block (cur := cs.toList) (w := w.drew) (by show w.heap[bb]? = _; rw [hbf]) R _ ?_
        rw [hxl]
        have e2 : bytesV st.rest = (bytesV st.buf).drop R := by unfold Rd.rest; rw [hR]; simp [bytesV]
        rw [e2, ← hct, List.drop_take]
      have Hxl := Lib.hid hxl
      have hcl : cs.toList.length = st.size := by simp [hcs]
      have Hmin : Hid ((bytesV st.rest).length = Nat.min (B - R) st.size) := by show _ = _; rw [hxl]; exact (Nat.min_eq_left (by omega)).symm
      have Hroom : Hid (0 + (bytesV st.rest).length ≤ cs.toList.length) := by show _ ≤ _; rw [hxl, hcl]; omega
      have Hbf : Hid (w.drew.heap[bb]? = some (.cells cs.toList.toArray 5 (0, 0))) := by show w.heap[bb]? = _; rw [hbf]
      have HS := Lib.hid (fun (w' : World) (hk : Keep (fun i => i = bb) w.drew w') => (show w'.cell? ⟨b, 0, none⟩ = some (.slice (some ⟨bb, 0, none⟩) st.size st.size) ∧ w'.cell? ⟨b, 2, none⟩ = some (.int .i64 R) ∧ w'.cell? ⟨b, 3, none⟩ = some (.int .i64 B) from ⟨hk.cellAt c0 n1, hk.cellAt c2 n1, hk.cellAt c3 n1⟩))
      have hRi : (0 : Int) ≤ R := by omega
      have hRB : (R : Int) ≤ B := by omega
      have hBs : (B : Int) ≤ st.size := by omega
      have Hrd := Lib.hid hrd
      have Hcl := Lib.hid hcl
      have HRq := Lib.hid hR
      have HBq := Lib.hid hB
      have Hevn := Lib.hid hevn
      clear hrd hbf hcs hct hsr hevn hxl hcl hC1 hC2 hR hB
      go_wp2_with fail
      go_region_held3 (fun w' => w'.cell? ⟨b, 0, none⟩ = some (.slice (some ⟨bb, 0, none⟩) st.size st.size) ∧ w'.cell? ⟨b, 2, none⟩ = some (.int .i64 R) ∧ w'.cell? ⟨b, 3, none⟩ = some (.int .i64 B))
        (first | exact ⟨c0, c2, c3⟩ | exact HS.out _ hkc)
        (first | (refine step_copy_any rfl _ _ 23 23 (by rfl) 5 Tryd.underlying23 sizeByte (some ⟨bb, 0, none⟩) a1 st.size st.size (B - R) (st.size - R) (by rfl) (by rfl) bb 0 cs.toList 5 Hbf.out (bytesV st.rest) (B - R) Hxl.out Hmin.out (fun _ => rfl) Hsrc.out Hroom.out (bytesV_one _) ?_; intro w3 hb3 hkc))
      rename_i hh
      have hkw : Keep (fun i => i = bb) w w3 := Keep.ofDrew hkc
      have hrd3 : w3.heap[b]? = _ := (hkw.block b (Array.getElem?_eq_some_iff.1 Hrd.out).1 n1).trans Hrd.out
      have q2 : w3.cell? ⟨b, 2, none⟩ = some (.int .i64 R) := cell_of hrd3 rfl
      have q3 : w3.cell? ⟨b, 3, none⟩ = some (.int .i64 B) := cell_of hrd3 rfl
      have f2 : w3.frozen? ⟨b, 2, none⟩ = false := frozen_of hrd3
      have f3 : w3.frozen? ⟨b, 3, none⟩ = false := frozen_of hrd3
      have Hrd3 := Lib.hid hrd3
      have HK := Lib.hid hkw
      have HB3 := Lib.hid hb3
      clear hh HS hkc hkw hrd3 hb3 hC c0 c2 c3
      go_wp2
      go_region
      go_wp2
      go_meet
      have hsr3 := HR.out.sr.keep HK.out (fun e => n3 e.symm) (fun i _ e => .inr (.inl e))
      refine ⟨⟨n1, n2, n3, (heap_set (heap_set (w := w3.drew) Hrd3.out _) _).trans ?_, ⟨(splice cs.toList 0 (bytesV st.rest)).toArray, ?_, ?_, ?_⟩, ?_⟩, ?_⟩
      · have e1 : ((st.down).buf.length : Int) = (B : Int) - R := by
          show (st.rest.length : Int) = _
          rw [Rd.rest_length]; unfold Rd.avail; rw [HBq.out, HRq.out]; omega
        have e2 : errV ev st.down.src st.down.err = .nilIface := Hevn.out
        rw [e1, e2]
        simp [Rd.down]
      · show ((w3.setCell ⟨b, 3, none⟩ (.int .i64 ((B : Int) - R))).setCell ⟨b, 2, none⟩ (.int .i64 0)).heap[bb]? = _
        rw [Below.heap_setCell _ _ _ _ (fun e => n1 e.symm), Below.heap_setCell _ _ _ _ (fun e => n1 e.symm)]; exact HB3.out.out
      · simp only [List.size_toArray]; rw [length_splice _ _ _ Hroom.out]; exact Hcl.out
      · show (splice cs.toList 0 _).toArray.toList.take st.rest.length = _
        simp only [List.toList_toArray]
        have h5 := take_splice (cs := cs.toList) (Y := bytesV st.rest) (n := 0) Hroom.out
        rw [Nat.zero_add, bytesV_length] at h5
        rw [h5]; simp; rfl
      · exact hsr3.keep (S := fun i => i = b) (by repeat (first | exact Keep.refl _ _ | apply Keep.set1 | apply Keep.drew)) (fun e => n2 e.symm) (fun i _ e => .inl e)
      · exact (HK.out.mono (T := fun i => i = b ∨ i = bb ∨ i = br) (fun i _ e => .inr (.inl e))).trans (T := fun i => i = b) (by repeat (first | exact Keep.refl _ _ | apply Keep.set1 | apply Keep.drew)) (fun i _ e => .inl e)
  case rest =>
    obtain ⟨h, hkc0⟩ := hcut
    have HKc := Lib.hid hkc0
    obtain ⟨sd, hsd⟩ : ∃ sd, sd = st.down := ⟨_, rfl⟩
    rw [← hsd] at h
    have HSd := Lib.hid hsd
    have hev := Hhev.out
    have ok : sd.src.Ok := by rw [hsd]; exact Hok.out.src
    have hr : sd.r = 0 := by rw [hsd]; rfl
    have her : sd.err = false := by rw [hsd]; exact Hher0.out
    have hss : sd.size = st.size := by rw [hsd]; rfl
    have hs : sd.size ≤ 32767 := by rw [hss]; exact hs
    have hlt : sd.buf.length < sd.size := by rw [hss, hsd]; show st.rest.length < _; rw [Rd.rest_length]; exact Hlt0.out
    have hd : sd.src.data.length ≤ 140737488355328 := by rw [hsd]; exact hd
    have hc : sd.src.cuts.length ≤ 140737488355328 := by rw [hsd]; exact hc
    have he : sd.src.eof = true := by rw [hsd]; exact he
    have hg : wc.cell? ⟨1, 0, none⟩ = some (.iface 93 (.pointer (some a0))) := hkc0.cellAt Hhg.out (fun e => by rcases e with e | e | e; exact hg0 e; exact hg2 e; exact hg1 e)
    clear hsd hss hkc0 c2' Hhev Hok Hher0 Hhg Hlt0 HR
    obtain ⟨n1, n2, n3, hrd, ⟨cs, hbf, hcs, hct⟩, hsr⟩ := h
    have hevn : errV ev sd.src sd.err = .nilIface := by rw [her]; rfl
    rw [hevn, hr] at hrd
    generalize hB : sd.buf.length = B at hrd hct hlt
    have hav : sd.size - sd.avail = sd.size - B := by unfold Rd.avail; rw [hr, hB]; rfl
    obtain ⟨k, hk⟩ : ∃ k, sd.src.gives (sd.size - B) = k := ⟨_, rfl⟩
    obtain ⟨e, hen⟩ : ∃ e, sd.src.ends k = e := ⟨_, rfl⟩
    obtain ⟨x, hx⟩ : ∃ x, sd.src.bytes (sd.size - B) = x := ⟨_, rfl⟩
    have hkb := Src.gives_le ok (sd.size - B)
    have hxl : x.length = k := by rw [← hx, Src.bytes_length ok, hk]
    have hfl : sd.fill = { sd with src := sd.src.after (sd.size - B), buf := sd.buf ++ x, r := 0, err := e } := by
      unfold Rd.fill
      rw [hav, hk, hen, hx, her]
      have : sd.rest = sd.buf := by unfold Rd.rest; rw [hr]; rfl
      rw [this]; simp
    have Hfl := Lib.hid hfl
    rw [hk] at hkb
    have hpos := Src.gives_pos ok (m := sd.size - B) (by omega)
    rw [hk, hen] at hpos
    have c0 : wc.cell? ⟨b, 0, none⟩ = some (.slice (some ⟨bb, 0, none⟩) sd.size sd.size) := cell_of hrd rfl
    have c1 : wc.cell? ⟨b, 1, none⟩ = some (.iface 50 (.pointer (some ⟨br, 0, none⟩))) := cell_of hrd rfl
    have c2 : wc.cell? ⟨b, 2, none⟩ = some (.int .i64 0) := cell_of hrd rfl
    have c3 : wc.cell? ⟨b, 3, none⟩ = some (.int .i64 B) := cell_of hrd rfl
    obtain ⟨a1, hA, hA1, _⟩ := slice_from (P := Tryd.prog) 23 5 Tryd.underlying23 sizeByte (some ⟨bb, 0, none⟩) sd.size sd.size B (by omega) (Nat.le_refl _) .i64
    have hA2 : a1 = some ⟨bb, B, none⟩ := by rw [hA1 (by omega)]; simp [Addr.add]; omega
    subst hA2
    have hge : ¬ (sd.size : Int) ≤ B := by omega
    have hkl : k ≤ sd.size - B := hkb.1
    have HS := Lib.hid (fun (w' : World) (hk : Keep (fun i => i = br ∨ i = bb) wc.drew.drew w') =>
      have hnb : ¬ (b = br ∨ b = bb) := fun e => by rcases e with e | e; exact n2 e; exact n1 e
      (show w'.cell? ⟨b, 0, none⟩ = some (.slice (some ⟨bb, 0, none⟩) sd.size sd.size) ∧ w'.cell? ⟨b, 1, none⟩ = some (.iface 50 (.pointer (some ⟨br, 0, none⟩))) ∧ w'.cell? ⟨b, 3, none⟩ = some (.int .i64 B) from ⟨hk.cellAt c0 hnb, hk.cellAt c1 hnb, hk.cellAt c3 hnb⟩))
    have Hrd := Lib.hid hrd
    have Hsr : Hid (SrcAt wc.drew.drew br sd.src (fun i => i = b ∨ i = bb ∨ i = br ∨ ev.far i)) := hsr
    have Hbf : Hid (wc.drew.drew.heap[bb]? = some (.cells cs.toList.toArray 5 (0, 0))) := by show wc.heap[bb]? = _; rw [hbf]
    have Hg : Hid (wc.drew.drew.cell? ⟨1, 0, none⟩ = some (.iface 93 (.pointer (some a0)))) := hg
    have Hcs := Lib.hid hcs
    have Hct := Lib.hid hct
    have HB := Lib.hid hB
    have Hr := Lib.hid hr
    have Hk := Lib.hid hk
    have Hen := Lib.hid hen
    have Hx := Lib.hid hx
    have Hxl := Lib.hid hxl
    have Hev := Lib.hid hev
    have Hpos := Lib.hid hpos
    have Hher := Lib.hid her
    have Hfit : Hid (B + (sd.size - B) ≤ cs.toList.length) := by show _ ≤ _; simp; omega
    have hmr := method_read
    have hkn : ¬ (k : Int) < 0 := by omega
    have hmp : 0 < sd.size - B := by omega
    clear hrd hbf hsr hcs hct hB hevn hr hA1 hk hen hx hxl hfl hav hpos hev her hg
    cases e with
    | false =>
      have hk0 : 0 < k := by rcases Hpos.out with h | ⟨h, _⟩; exact h; cases h
      have hkp : (0 : Int) < k := by omega
      go_wp2
      go_region
      go_wp2_with fail
      go_loopg [2, 3, 4] 0 (fun g i x3 x4 wr => i = .int .i64 100 ∧ wc.drew = wr)
      case atStart => exact ⟨rfl, rfl⟩
      case round =>
        obtain ⟨rfl, rfl⟩ := hrel
        go_wp2_with fail
        go_region_held3 (fun w' => w'.cell? ⟨b, 0, none⟩ = some (.slice (some ⟨bb, 0, none⟩) sd.size sd.size) ∧ w'.cell? ⟨b, 1, none⟩ = some (.iface 50 (.pointer (some ⟨br, 0, none⟩))) ∧ w'.cell? ⟨b, 3, none⟩ = some (.int .i64 B))
          (first | exact ⟨c0, c1, c3⟩ | exact HS.out _ hk3)
          (first | (go_at_call 58; refine (read_any _ br bb B (sd.size - B) (sd.size - B) sd.src (fun i => i = b ∨ i = bb ∨ i = br ∨ ev.far i) (.inr (.inr (.inl rfl))) (.inr (.inl rfl)) n3 Hsr.out ok cs.toList Hbf.out Hfit.out hmp hd hc (by omega) he a0 Hg.out hg1 hg2 k Hk.out false Hen.out x Hx.out).mono ?_; rintro r w3 ⟨rfl, hs3, hb3, hk3⟩))
        rename_i hh
        have hkw : Keep (fun i => i = br ∨ i = bb) wc w3 := Keep.ofDrew (Keep.ofDrew hk3)
        have hnb : ¬ (b = br ∨ b = bb) := fun e => by rcases e with e | e; exact n2 e; exact n1 e
        have hrd3 : w3.heap[b]? = _ := (hkw.block b (Array.getElem?_eq_some_iff.1 Hrd.out).1 hnb).trans Hrd.out
        have q3 : w3.cell? ⟨b, 3, none⟩ = some (.int .i64 B) := cell_of hrd3 rfl
        have f3 : w3.frozen? ⟨b, 3, none⟩ = false := frozen_of hrd3
        have Hrd3 := Lib.hid hrd3
        have HS3 := Lib.hid hs3
        have HB3 := Lib.hid hb3
        have HK3 := Lib.hid hkw
        clear hh HS hk3 hkw hrd3 hs3 hb3 hA c0 c1 c2 c3 hmr
        go_wp2
        refine bodyPost_ret (results_none rfl _ _ _) rfl ?_
        rw [← HSd.out, Hfl.out]
        have hk4 : Keep (fun i => i = b) w3 (w3.setCell ⟨b, 3, none⟩ (.int .i64 ((B : Int) + k))) := (Keep.refl _ w3).set1 3 _
        have hcl : cs.toList.length = sd.size := by simp [Hcs.out]
        refine ⟨rfl, ⟨n1, n2, n3, ?_, ⟨(splice cs.toList B (bytesV x)).toArray, ?_, ?_, ?_⟩, ?_⟩, HKc.out.trans ((HK3.out.mono (T := fun i => i = b ∨ i = bb ∨ i = br) (fun i _ e => by rcases e with e | e; exact .inr (.inr e); exact .inr (.inl e))).trans hk4 (fun i _ e => .inl e)) (fun _ _ e => e)⟩
        · refine (heap_set Hrd3.out _).trans ?_
          have e1 : ((sd.buf ++ x).length : Int) = (B : Int) + k := by rw [List.length_append, HB.out, Hxl.out]; omega
          simp only [errV]
          rw [e1]
          simp
        · rw [Below.heap_setCell _ _ _ _ (fun e => n1 e.symm)]; exact HB3.out
        · simp only [List.size_toArray]; rw [length_splice _ _ _ (by rw [bytesV_length, Hxl.out, hcl]; omega)]; exact hcl
        · show (splice cs.toList B _).toArray.toList.take (sd.buf ++ x).length = _
          have e4 : (sd.buf ++ x).length = B + (bytesV x).length := by rw [List.length_append, HB.out, bytesV_length]
          rw [e4]
          simp only [List.toList_toArray]
          rw [take_splice (by rw [bytesV_length, Hxl.out, hcl]; omega), Hct.out, ← bytesV_append]
        · exact (HS3.out.keep hk4 (fun e => n2 e.symm) (fun i _ e => .inl e))
    | true =>
      go_wp2
      go_region
      go_wp2_with fail
      go_loopg [2, 3, 4] 0 (fun g i x3 x4 wr => i = .int .i64 100 ∧ wc.drew = wr)
      case atStart => exact ⟨rfl, rfl⟩
      case round =>
        obtain ⟨rfl, rfl⟩ := hrel
        go_wp2_with fail
        go_region_held3 (fun w' => w'.cell? ⟨b, 0, none⟩ = some (.slice (some ⟨bb, 0, none⟩) sd.size sd.size) ∧ w'.cell? ⟨b, 1, none⟩ = some (.iface 50 (.pointer (some ⟨br, 0, none⟩))) ∧ w'.cell? ⟨b, 3, none⟩ = some (.int .i64 B))
          (first | exact ⟨c0, c1, c3⟩ | exact HS.out _ hk3)
          (first | (go_at_call 58; refine (read_any _ br bb B (sd.size - B) (sd.size - B) sd.src (fun i => i = b ∨ i = bb ∨ i = br ∨ ev.far i) (.inr (.inr (.inl rfl))) (.inr (.inl rfl)) n3 Hsr.out ok cs.toList Hbf.out Hfit.out hmp hd hc (by omega) he a0 Hg.out hg1 hg2 k Hk.out true Hen.out x Hx.out).mono ?_; rintro r w3 ⟨rfl, hs3, hb3, hk3⟩))
        rename_i hh
        have hkw : Keep (fun i => i = br ∨ i = bb) wc w3 := Keep.ofDrew (Keep.ofDrew hk3)
        have hnb : ¬ (b = br ∨ b = bb) := fun e => by rcases e with e | e; exact n2 e; exact n1 e
        have hrd3 : w3.heap[b]? = _ := (hkw.block b (Array.getElem?_eq_some_iff.1 Hrd.out).1 hnb).trans Hrd.out
        have q3 : w3.cell? ⟨b, 3, none⟩ = some (.int .i64 B) := cell_of hrd3 rfl
        have q4 : w3.cell? ⟨b, 4, none⟩ = some .nilIface := cell_of hrd3 rfl
        have f3 : w3.frozen? ⟨b, 3, none⟩ = false := frozen_of hrd3
        have f4 : w3.frozen? ⟨b, 4, none⟩ = false := frozen_of hrd3
        have Hrd3 := Lib.hid hrd3
        have HS3 := Lib.hid hs3
        have HB3 := Lib.hid hb3
        have HK3 := Lib.hid hkw
        clear hh HS hk3 hkw hrd3 hs3 hb3 hA c0 c1 c2 c3 hmr
        go_wp2
        refine bodyPost_ret (results_none rfl _ _ _) rfl ?_
        rw [← HSd.out, Hfl.out]
        have hk4 : Keep (fun i => i = b) w3 ((w3.setCell ⟨b, 3, none⟩ (.int .i64 ((B : Int) + k))).setCell ⟨b, 4, none⟩ (.iface 93 (.pointer (some a0)))) := ((Keep.refl _ w3).set1 3 _).set1 4 _
        have hcl : cs.toList.length = sd.size := by simp [Hcs.out]
        refine ⟨rfl, ⟨n1, n2, n3, ?_, ⟨(splice cs.toList B (bytesV x)).toArray, ?_, ?_, ?_⟩, ?_⟩, HKc.out.trans ((HK3.out.mono (T := fun i => i = b ∨ i = bb ∨ i = br) (fun i _ e => by rcases e with e | e; exact .inr (.inr e); exact .inr (.inl e))).trans hk4 (fun i _ e => .inl e)) (fun _ _ e => e)⟩
        · refine (heap_set (heap_set Hrd3.out _) _).trans ?_
          have e1 : ((sd.buf ++ x).length : Int) = (B : Int) + k := by rw [List.length_append, HB.out, Hxl.out]; omega
          have e2 : (sd.src.after (sd.size - B)).eof = true := (Src.after_eof _ _).trans he
          simp only [errV, e2]
          rw [e1, ← Hev.out]
          simp
        · rw [Below.heap_setCell _ _ _ _ (fun e => n1 e.symm), Below.heap_setCell _ _ _ _ (fun e => n1 e.symm)]; exact HB3.out
        · simp only [List.size_toArray]; rw [length_splice _ _ _ (by rw [bytesV_length, Hxl.out, hcl]; omega)]; exact hcl
        · show (splice cs.toList B _).toArray.toList.take (sd.buf ++ x).length = _
          have e4 : (sd.buf ++ x).length = B + (bytesV x).length := by rw [List.length_append, HB.out, bytesV_length]
          rw [e4]
          simp only [List.toList_toArray]
          rw [take_splice (by rw [bytesV_length, Hxl.out, hcl]; omega), Hct.out, ← bytesV_append]
        · exact (HS3.out.keep hk4 (fun e => n2 e.symm) (fun i _ e => .inl e))
end Go.Proofs.YtfigpbcmnlkdjaaDoor
