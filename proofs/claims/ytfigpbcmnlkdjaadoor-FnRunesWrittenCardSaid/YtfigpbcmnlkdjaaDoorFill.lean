/-
  The walks of the source's Read and of fill, whatever comes, where the end is io.EOF.
-/
import Derived.Test.YtfigpbcmnlkdjaaDoorRead2
import Derived.Test.YtfigpbcmnlkdjaaDoorFill0
namespace Go.Proofs.YtfigpbcmnlkdjaaDoor
open Go.RowKit

theorem splice_nil (cs : List Value) (off : Nat) : splice cs off [] = cs := by simp [splice]

/-- Read, whatever comes. -/
theorem read_any (w : World) (br bb off m cap : Nat) (s : Src) (N : Nat → Prop) (hN : N br) (hNb : N bb) (hne : bb ≠ br) (h : SrcAt w br s N) (ok : s.Ok) (cs : List Value) (hbf : w.heap[bb]? = some (.cells cs.toArray 5 (0, 0)))
    (hfit : off + m ≤ cs.length) (hm : 0 < m) (hd : s.data.length ≤ 140737488355328) (hc : s.cuts.length ≤ 140737488355328) (hmb : m ≤ 32767) (he : s.eof = true) (a0 : Addr) (hg : w.cell? ⟨1, 0, none⟩ = some (.iface 93 (.pointer (some a0)))) (hg1 : 1 ≠ br) (hg2 : 1 ≠ bb)
    (n : Nat) (hn : s.gives m = n) (e : Bool) (hen : s.ends n = e) (x : List UInt8) (hx : s.bytes m = x) :
    Calls Tryd.prog 58 #[.pointer (some ⟨br, 0, none⟩), .slice (some ⟨bb, off, none⟩) m cap] w fun r w' =>
      r = .returned (.tuple #[.int .i64 n, if e then .iface 93 (.pointer (some a0)) else .nilIface]) ∧ SrcAt w' br (s.after m) N ∧ w'.heap[bb]? = some (.cells (splice cs off (bytesV x)).toArray 5 (0, 0)) ∧ Keep (fun i => i = br ∨ i = bb) w w' := by
  by_cases hp : s.pos = s.data.length
  · have h1 : n = 0 := by rw [← hn]; unfold Src.gives; rw [if_pos hp]
    have h2 : e = true := by rw [← hen]; unfold Src.ends; rw [if_pos hp]
    have h3 : x = [] := by rw [← hx]; unfold Src.bytes; rw [hn, h1]; rfl
    have h4 : s.after m = s := by unfold Src.after; rw [if_pos hp]
    subst h1 h2 h3
    rw [h4]
    refine (read_done w br s N h hp he a0 hg _ m cap hm hd).mono ?_
    rintro r w' ⟨rfl, hnw⟩
    refine ⟨rfl, h.keep hnw (fun f => f) (fun _ _ f => f.elim), ?_, hnw.mono (fun _ _ f => f.elim)⟩
    rw [show bytesV ([] : List UInt8) = [] from rfl, splice_nil]
    exact (hnw.block bb (Array.getElem?_eq_some_iff.1 hbf).1 (fun f => f)).trans hbf
  · have hpos := ok.pos
    have hleft := ok.some (by omega)
    have hll := ok.left
    have h1 : min m s.left = n := by rw [← hn]; unfold Src.gives; rw [if_neg hp]
    have h3 : x = (s.data.drop s.pos).take n := by rw [← hx]; unfold Src.bytes; rw [hn]
    have h4 : s.after m = s.adv n := by unfold Src.after; rw [if_neg hp, h1]
    subst h3
    rw [h4]
    by_cases hl : s.pos + n = s.data.length
    · have h2 : e = s.wth := by rw [← hen]; unfold Src.ends; rw [if_neg hp]; simp [hl]
      subst h2
      exact read_last w br bb off m cap n s N hN hNb hne h ok cs hbf hfit h1 (by omega) hl a0 (fun _ => ⟨he, hg, hg1, hg2⟩) hd hc hmb
    · have h2 : e = false := by rw [← hen]; unfold Src.ends; rw [if_neg hp]; simp [hl]
      subst h2
      exact read_mid w br bb off m cap n s N hN hNb hne h ok cs hbf hfit h1 (by omega) (by omega) hd hc hmb

/-- The reader whose unread bytes have been moved to the buffer's beginning. -/
def Rd.down (st : Rd) : Rd := { st with buf := st.rest, r := 0 }

set_option maxRecDepth 100000 in
set_option maxHeartbeats 2000000 in
theorem fill_down (w : World) (b bb br : Nat) (st : Rd) (a0 : Addr) (ev : Evs) (hev : ev true = .iface 93 (.pointer (some a0))) (h : RdAt ev w b bb br st) (ok : st.src.Ok) (hr : st.r = 0) (her : st.err = false) (hs : st.size ≤ 32767) (hlt : st.buf.length < st.size)
    (hd : st.src.data.length ≤ 140737488355328) (hc : st.src.cuts.length ≤ 140737488355328) (he : st.src.eof = true) (hg : w.cell? ⟨1, 0, none⟩ = some (.iface 93 (.pointer (some a0)))) (hg0 : 1 ≠ b) (hg1 : 1 ≠ br) (hg2 : 1 ≠ bb) :
    Calls Tryd.prog 33 #[.pointer (some ⟨b, 0, none⟩)] w fun e w' => e = .returned (.tuple #[]) ∧ RdAt ev w' b bb br st.fill ∧ Keep (fun i => i = b ∨ i = bb ∨ i = br) w w' := by
  obtain ⟨n1, n2, n3, hrd, ⟨cs, hbf, hcs, hct⟩, hsr⟩ := h
  have hevn : errV ev st.src st.err = .nilIface := by rw [her]; rfl
  rw [hevn, hr] at hrd
  generalize hB : st.buf.length = B at hrd hct hlt
  have hav : st.size - st.avail = st.size - B := by unfold Rd.avail; rw [hr, hB]; rfl
  obtain ⟨k, hk⟩ : ∃ k, st.src.gives (st.size - B) = k := ⟨_, rfl⟩
  obtain ⟨e, hen⟩ : ∃ e, st.src.ends k = e := ⟨_, rfl⟩
  obtain ⟨x, hx⟩ : ∃ x, st.src.bytes (st.size - B) = x := ⟨_, rfl⟩
  have hkb := Src.gives_le ok (st.size - B)
  have hxl : x.length = k := by rw [← hx, Src.bytes_length ok, hk]
  have hfl : st.fill = { st with src := st.src.after (st.size - B), buf := st.buf ++ x, r := 0, err := e } := by
    unfold Rd.fill
    rw [hav, hk, hen, hx, her]
    have : st.rest = st.buf := by unfold Rd.rest; rw [hr]; rfl
    rw [this]; simp
  rw [hfl]
  rw [hk] at hkb
  have hpos := Src.gives_pos ok (m := st.size - B) (by omega)
  rw [hk, hen] at hpos
  have c0 : w.cell? ⟨b, 0, none⟩ = some (.slice (some ⟨bb, 0, none⟩) st.size st.size) := cell_of hrd rfl
  have c1 : w.cell? ⟨b, 1, none⟩ = some (.iface 50 (.pointer (some ⟨br, 0, none⟩))) := cell_of hrd rfl
  have c2 : w.cell? ⟨b, 2, none⟩ = some (.int .i64 0) := cell_of hrd rfl
  have c3 : w.cell? ⟨b, 3, none⟩ = some (.int .i64 B) := cell_of hrd rfl
  obtain ⟨a1, hA, hA1, _⟩ := slice_from (P := Tryd.prog) 23 5 Tryd.underlying23 sizeByte (some ⟨bb, 0, none⟩) st.size st.size B (by omega) (Nat.le_refl _) .i64
  have hA2 : a1 = some ⟨bb, B, none⟩ := by rw [hA1 (by omega)]; simp [Addr.add]; omega
  subst hA2
  have hge : ¬ (st.size : Int) ≤ B := by omega
  have hkl : k ≤ st.size - B := hkb.1
  have HS := Lib.hid (fun (w' : World) (hk : Keep (fun i => i = br ∨ i = bb) w.drew.drew w') =>
    have hnb : ¬ (b = br ∨ b = bb) := fun e => by rcases e with e | e; exact n2 e; exact n1 e
    (show w'.cell? ⟨b, 0, none⟩ = some (.slice (some ⟨bb, 0, none⟩) st.size st.size) ∧ w'.cell? ⟨b, 1, none⟩ = some (.iface 50 (.pointer (some ⟨br, 0, none⟩))) ∧ w'.cell? ⟨b, 3, none⟩ = some (.int .i64 B) from ⟨hk.cellAt c0 hnb, hk.cellAt c1 hnb, hk.cellAt c3 hnb⟩))
  have Hrd := Lib.hid hrd
  have Hsr : Hid (SrcAt w.drew.drew br st.src (fun i => i = b ∨ i = bb ∨ i = br ∨ ev.far i)) := hsr
  have Hbf : Hid (w.drew.drew.heap[bb]? = some (.cells cs.toList.toArray 5 (0, 0))) := by show w.heap[bb]? = _; rw [hbf]
  have Hg : Hid (w.drew.drew.cell? ⟨1, 0, none⟩ = some (.iface 93 (.pointer (some a0)))) := hg
  have Hcs := Lib.hid hcs
  have Hct := Lib.hid hct
  have HB := Lib.hid hB
  have Hr := Lib.hid hr
  have Hk := Lib.hid hk
  have Hen := Lib.hid hen
  have Hx := Lib.hid hx
  have Hxl := Lib.hid hxl
  have Hev := Lib.hid hev
  have Hpos := Lib.hid hpos
  have Hher := Lib.hid her
  have Hfit : Hid (B + (st.size - B) ≤ cs.toList.length) := by show _ ≤ _; simp; omega
  have hmr := method_read
  have hkn : ¬ (k : Int) < 0 := by omega
  have hmp : 0 < st.size - B := by omega
  clear hrd hbf hsr hcs hct hB hevn hr hA1 hk hen hx hxl hfl hav hpos hev her hg
  cases e with
  | false =>
    have hk0 : 0 < k := by rcases Hpos.out with h | ⟨h, _⟩; exact h; cases h
    have hkp : (0 : Int) < k := by omega
    go_enter Tryd.func33, Tryd.ntmps33
    go_wp2
    go_region
    go_wp2_with fail
    go_loopg [2, 3, 4] 0 (fun g i x3 x4 wr => i = .int .i64 100 ∧ w.drew = wr)
    case atStart => exact ⟨rfl, rfl⟩
    case round =>
      obtain ⟨rfl, rfl⟩ := hrel
      go_wp2_with fail
      go_region_held3 (fun w' => w'.cell? ⟨b, 0, none⟩ = some (.slice (some ⟨bb, 0, none⟩) st.size st.size) ∧ w'.cell? ⟨b, 1, none⟩ = some (.iface 50 (.pointer (some ⟨br, 0, none⟩))) ∧ w'.cell? ⟨b, 3, none⟩ = some (.int .i64 B))
        (first | exact ⟨c0, c1, c3⟩ | exact HS.out _ hk3)
        (first | (go_at_call 58; refine (read_any _ br bb B (st.size - B) (st.size - B) st.src (fun i => i = b ∨ i = bb ∨ i = br ∨ ev.far i) (.inr (.inr (.inl rfl))) (.inr (.inl rfl)) n3 Hsr.out ok cs.toList Hbf.out Hfit.out hmp hd hc (by omega) he a0 Hg.out hg1 hg2 k Hk.out false Hen.out x Hx.out).mono ?_; rintro r w3 ⟨rfl, hs3, hb3, hk3⟩))
      rename_i hh
      have hkw : Keep (fun i => i = br ∨ i = bb) w w3 := Keep.ofDrew (Keep.ofDrew hk3)
      have hnb : ¬ (b = br ∨ b = bb) := fun e => by rcases e with e | e; exact n2 e; exact n1 e
      have hrd3 : w3.heap[b]? = _ := (hkw.block b (Array.getElem?_eq_some_iff.1 Hrd.out).1 hnb).trans Hrd.out
      have q3 : w3.cell? ⟨b, 3, none⟩ = some (.int .i64 B) := cell_of hrd3 rfl
      have f3 : w3.frozen? ⟨b, 3, none⟩ = false := frozen_of hrd3
      have Hrd3 := Lib.hid hrd3
      have HS3 := Lib.hid hs3
      have HB3 := Lib.hid hb3
      have HK3 := Lib.hid hkw
      clear hh HS hk3 hkw hrd3 hs3 hb3 hA c0 c1 c2 c3 hmr
      go_wp2
      refine bodyPost_ret (results_none rfl _ _ _) rfl ?_
      have hk4 : Keep (fun i => i = b) w3 (w3.setCell ⟨b, 3, none⟩ (.int .i64 ((B : Int) + k))) := (Keep.refl _ w3).set1 3 _
      have hcl : cs.toList.length = st.size := by simp [Hcs.out]
      refine ⟨rfl, ⟨n1, n2, n3, ?_, ⟨(splice cs.toList B (bytesV x)).toArray, ?_, ?_, ?_⟩, ?_⟩, (HK3.out.mono (fun i _ e => by rcases e with e | e; exact .inr (.inr e); exact .inr (.inl e))).trans hk4 (fun i _ e => .inl e)⟩
      · refine (heap_set Hrd3.out _).trans ?_
        have e1 : ((st.buf ++ x).length : Int) = (B : Int) + k := by rw [List.length_append, HB.out, Hxl.out]; omega
        simp only [errV]
        rw [e1]
        simp
      · rw [Below.heap_setCell _ _ _ _ (fun e => n1 e.symm)]; exact HB3.out
      · simp only [List.size_toArray]; rw [length_splice _ _ _ (by rw [bytesV_length, Hxl.out, hcl]; omega)]; exact hcl
      · show (splice cs.toList B _).toArray.toList.take (st.buf ++ x).length = _
        have e4 : (st.buf ++ x).length = B + (bytesV x).length := by rw [List.length_append, HB.out, bytesV_length]
        rw [e4]
        simp only [List.toList_toArray]
        rw [take_splice (by rw [bytesV_length, Hxl.out, hcl]; omega), Hct.out, ← bytesV_append]
      · exact (HS3.out.keep hk4 (fun e => n2 e.symm) (fun i _ e => .inl e))
  | true =>
    go_enter Tryd.func33, Tryd.ntmps33
    go_wp2
    go_region
    go_wp2_with fail
    go_loopg [2, 3, 4] 0 (fun g i x3 x4 wr => i = .int .i64 100 ∧ w.drew = wr)
    case atStart => exact ⟨rfl, rfl⟩
    case round =>
      obtain ⟨rfl, rfl⟩ := hrel
      go_wp2_with fail
      go_region_held3 (fun w' => w'.cell? ⟨b, 0, none⟩ = some (.slice (some ⟨bb, 0, none⟩) st.size st.size) ∧ w'.cell? ⟨b, 1, none⟩ = some (.iface 50 (.pointer (some ⟨br, 0, none⟩))) ∧ w'.cell? ⟨b, 3, none⟩ = some (.int .i64 B))
        (first | exact ⟨c0, c1, c3⟩ | exact HS.out _ hk3)
        (first | (go_at_call 58; refine (read_any _ br bb B (st.size - B) (st.size - B) st.src (fun i => i = b ∨ i = bb ∨ i = br ∨ ev.far i) (.inr (.inr (.inl rfl))) (.inr (.inl rfl)) n3 Hsr.out ok cs.toList Hbf.out Hfit.out hmp hd hc (by omega) he a0 Hg.out hg1 hg2 k Hk.out true Hen.out x Hx.out).mono ?_; rintro r w3 ⟨rfl, hs3, hb3, hk3⟩))
      rename_i hh
      have hkw : Keep (fun i => i = br ∨ i = bb) w w3 := Keep.ofDrew (Keep.ofDrew hk3)
      have hnb : ¬ (b = br ∨ b = bb) := fun e => by rcases e with e | e; exact n2 e; exact n1 e
      have hrd3 : w3.heap[b]? = _ := (hkw.block b (Array.getElem?_eq_some_iff.1 Hrd.out).1 hnb).trans Hrd.out
      have q3 : w3.cell? ⟨b, 3, none⟩ = some (.int .i64 B) := cell_of hrd3 rfl
      have q4 : w3.cell? ⟨b, 4, none⟩ = some .nilIface := cell_of hrd3 rfl
      have f3 : w3.frozen? ⟨b, 3, none⟩ = false := frozen_of hrd3
      have f4 : w3.frozen? ⟨b, 4, none⟩ = false := frozen_of hrd3
      have Hrd3 := Lib.hid hrd3
      have HS3 := Lib.hid hs3
      have HB3 := Lib.hid hb3
      have HK3 := Lib.hid hkw
      clear hh HS hk3 hkw hrd3 hs3 hb3 hA c0 c1 c2 c3 hmr
      go_wp2
      refine bodyPost_ret (results_none rfl _ _ _) rfl ?_
      have hk4 : Keep (fun i => i = b) w3 ((w3.setCell ⟨b, 3, none⟩ (.int .i64 ((B : Int) + k))).setCell ⟨b, 4, none⟩ (.iface 93 (.pointer (some a0)))) := ((Keep.refl _ w3).set1 3 _).set1 4 _
      have hcl : cs.toList.length = st.size := by simp [Hcs.out]
      refine ⟨rfl, ⟨n1, n2, n3, ?_, ⟨(splice cs.toList B (bytesV x)).toArray, ?_, ?_, ?_⟩, ?_⟩, (HK3.out.mono (fun i _ e => by rcases e with e | e; exact .inr (.inr e); exact .inr (.inl e))).trans hk4 (fun i _ e => .inl e)⟩
      · refine (heap_set (heap_set Hrd3.out _) _).trans ?_
        have e1 : ((st.buf ++ x).length : Int) = (B : Int) + k := by rw [List.length_append, HB.out, Hxl.out]; omega
        have e2 : (st.src.after (st.size - B)).eof = true := (Src.after_eof _ _).trans he
        simp only [errV, e2]
        rw [e1, ← Hev.out]
        simp
      · rw [Below.heap_setCell _ _ _ _ (fun e => n1 e.symm), Below.heap_setCell _ _ _ _ (fun e => n1 e.symm)]; exact HB3.out
      · simp only [List.size_toArray]; rw [length_splice _ _ _ (by rw [bytesV_length, Hxl.out, hcl]; omega)]; exact hcl
      · show (splice cs.toList B _).toArray.toList.take (st.buf ++ x).length = _
        have e4 : (st.buf ++ x).length = B + (bytesV x).length := by rw [List.length_append, HB.out, bytesV_length]
        rw [e4]
        simp only [List.toList_toArray]
        rw [take_splice (by rw [bytesV_length, Hxl.out, hcl]; omega), Hct.out, ← bytesV_append]
      · exact (HS3.out.keep hk4 (fun e => n2 e.symm) (fun i _ e => .inl e))
end Go.Proofs.YtfigpbcmnlkdjaaDoor
