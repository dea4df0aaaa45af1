/-
  The walk of fill, where nothing has been read yet and the source does not come to its end.
-/
import Derived.Test.YtfigpbcmnlkdjaaDoorRead
namespace Go.Proofs.YtfigpbcmnlkdjaaDoor
open Go.RowKit

theorem method_read (n : Nat) (a : Addr) (w : World) : (method (n + 1) 50 (.pointer (some a)) "Read").run Tryd.prog w = .ok (58, .pointer (some a)) w := by kernel_rfl

/-- The reader behind a reading of k bytes more. -/
def Rd.got (st : Rd) (k : Nat) : Rd := { st with src := st.src.adv k, buf := st.buf ++ (st.src.data.drop st.src.pos).take k }

set_option maxRecDepth 100000 in
set_option maxHeartbeats 2000000 in
theorem fill_mid (ev : Evs) (w : World) (b bb br : Nat) (st : Rd) (h : RdAt ev w b bb br st) (ok : st.src.Ok) (hr : st.r = 0) (he : st.err = false) (hs : st.size ≤ 32767) (hlt : st.buf.length < st.size) (k : Nat) (hk : min (st.size - st.buf.length) st.src.left = k) (hk0 : 0 < k)
    (hend : st.src.pos + k < st.src.data.length) (hd : st.src.data.length ≤ 140737488355328) (hc : st.src.cuts.length ≤ 140737488355328) :
    Calls Tryd.prog 33 #[.pointer (some ⟨b, 0, none⟩)] w fun e w' => e = .returned (.tuple #[]) ∧ RdAt ev w' b bb br (st.got k) ∧ Keep (fun i => i = b ∨ i = bb ∨ i = br) w w' := by
  obtain ⟨n1, n2, n3, hrd, ⟨cs, hbf, hcs, hct⟩, hsr⟩ := h
  have hev : errV ev st.src st.err = .nilIface := by rw [he]; rfl
  rw [hev, hr] at hrd
  generalize hB : st.buf.length = B at hrd hct hlt hk
  have c0 : w.cell? ⟨b, 0, none⟩ = some (.slice (some ⟨bb, 0, none⟩) st.size st.size) := cell_of hrd rfl
  have c1 : w.cell? ⟨b, 1, none⟩ = some (.iface 50 (.pointer (some ⟨br, 0, none⟩))) := cell_of hrd rfl
  have c2 : w.cell? ⟨b, 2, none⟩ = some (.int .i64 0) := cell_of hrd rfl
  have c3 : w.cell? ⟨b, 3, none⟩ = some (.int .i64 B) := cell_of hrd rfl
  obtain ⟨a1, hA, hA1, _⟩ := slice_from (P := Tryd.prog) 23 5 Tryd.underlying23 sizeByte (some ⟨bb, 0, none⟩) st.size st.size B (by omega) (Nat.le_refl _) .i64
  have hA2 : a1 = some ⟨bb, B, none⟩ := by rw [hA1 (by omega)]; simp [Addr.add]; omega
  subst hA2
  have hge : ¬ (st.size : Int) ≤ B := by omega
  have hkl : k ≤ st.size - B := by omega
  have HS := Lib.hid (fun (w' : World) (hk : Keep (fun i => i = br ∨ i = bb) w.drew.drew w') =>
    have hnb : ¬ (b = br ∨ b = bb) := fun e => by rcases e with e | e; exact n2 e; exact n1 e
    (show w'.cell? ⟨b, 0, none⟩ = some (.slice (some ⟨bb, 0, none⟩) st.size st.size) ∧ w'.cell? ⟨b, 1, none⟩ = some (.iface 50 (.pointer (some ⟨br, 0, none⟩))) ∧ w'.cell? ⟨b, 3, none⟩ = some (.int .i64 B) from ⟨hk.cellAt c0 hnb, hk.cellAt c1 hnb, hk.cellAt c3 hnb⟩))
  have Hrd := Lib.hid hrd
  have Hsr : Hid (SrcAt w.drew.drew br st.src (fun i => i = b ∨ i = bb ∨ i = br ∨ ev.far i)) := hsr
  have Hbf : Hid (w.drew.drew.heap[bb]? = some (.cells cs.toList.toArray 5 (0, 0))) := by show w.heap[bb]? = _; rw [hbf]
  have Hcs := Lib.hid hcs
  have Hct := Lib.hid hct
  have HB := Lib.hid hB
  have Hev := Lib.hid hev
  have Hr := Lib.hid hr
  have Hfit : Hid (B + (st.size - B) ≤ cs.toList.length) := by show _ ≤ _; simp; omega
  have hmr := method_read
  have hkp : (0 : Int) < k := by omega
  have hkn : ¬ (k : Int) < 0 := by omega
  clear hrd hbf hsr hcs hct hB hev hr hA1
  go_enter Tryd.func33, Tryd.ntmps33
  go_wp2
  go_region
  go_wp2_with fail
  go_loopg [2, 3, 4] 0 (fun g i x3 x4 wr => i = .int .i64 100 ∧ w.drew = wr)
  case atStart => exact ⟨rfl, rfl⟩
  case round =>
    obtain ⟨rfl, rfl⟩ := hrel
    go_wp2_with fail
    go_region_held3 (fun w' => w'.cell? ⟨b, 0, none⟩ = some (.slice (some ⟨bb, 0, none⟩) st.size st.size) ∧ w'.cell? ⟨b, 1, none⟩ = some (.iface 50 (.pointer (some ⟨br, 0, none⟩))) ∧ w'.cell? ⟨b, 3, none⟩ = some (.int .i64 B))
      (first | exact ⟨c0, c1, c3⟩ | exact HS.out _ hk3)
      (first | (go_at_call 58; refine (read_mid _ br bb B (st.size - B) (st.size - B) k st.src (fun i => i = b ∨ i = bb ∨ i = br ∨ ev.far i) (.inr (.inr (.inl rfl))) (.inr (.inl rfl)) n3 Hsr.out ok cs.toList Hbf.out Hfit.out hk hk0 hend hd hc (by omega)).mono ?_; rintro e w3 ⟨rfl, hs3, hb3, hk3⟩))
    rename_i hh
    have hkw : Keep (fun i => i = br ∨ i = bb) w w3 := Keep.ofDrew (Keep.ofDrew hk3)
    have hnb : ¬ (b = br ∨ b = bb) := fun e => by rcases e with e | e; exact n2 e; exact n1 e
    have hrd3 : w3.heap[b]? = _ := (hkw.block b (Array.getElem?_eq_some_iff.1 Hrd.out).1 hnb).trans Hrd.out
    have q3 : w3.cell? ⟨b, 3, none⟩ = some (.int .i64 B) := cell_of hrd3 rfl
    have f3 : w3.frozen? ⟨b, 3, none⟩ = false := frozen_of hrd3
    have Hrd3 := Lib.hid hrd3
    have HS3 := Lib.hid hs3
    have HB3 := Lib.hid hb3
    have HK3 := Lib.hid hkw
    clear hh HS hk3 hkw hrd3 hs3 hb3 hA c0 c1 c2 c3 hmr
    go_wp2
    refine bodyPost_ret (results_none rfl _ _ _) rfl ?_
    have hk4 : Keep (fun i => i = b) w3 (w3.setCell ⟨b, 3, none⟩ (.int .i64 ((B : Int) + k))) := (Keep.refl _ w3).set1 3 _
    have hlen : (bytesV ((st.src.data.drop st.src.pos).take k)).length = k := by rw [bytesV_length]; simp; omega
    have hcl : cs.toList.length = st.size := by simp [Hcs.out]
    refine ⟨rfl, ⟨n1, n2, n3, ?_, ⟨(splice cs.toList B (bytesV ((st.src.data.drop st.src.pos).take k))).toArray, ?_, ?_, ?_⟩, ?_⟩, (HK3.out.mono (fun i _ e => by rcases e with e | e; exact .inr (.inr e); exact .inr (.inl e))).trans hk4 (fun i _ e => .inl e)⟩
    · refine (heap_set Hrd3.out _).trans ?_
      have e1 : ((st.got k).buf.length : Int) = (B : Int) + k := by
        show ((st.buf ++ (st.src.data.drop st.src.pos).take k).length : Int) = _
        rw [List.length_append, HB.out]; simp; omega
      have e2 : errV ev (st.got k).src (st.got k).err = .nilIface := by show (if st.err = true then _ else _) = _; rw [he]; rfl
      have e3 : ((st.got k).r : Int) = 0 := by show (st.r : Int) = 0; rw [Hr.out]; rfl
      rw [e1, e2, e3]
      simp [Rd.got]
    · rw [Below.heap_setCell _ _ _ _ (fun e => n1 e.symm)]; exact HB3.out
    · simp only [List.size_toArray]; rw [length_splice _ _ _ (by rw [hlen, hcl]; omega)]; exact hcl
    · show (splice cs.toList B _).toArray.toList.take (st.buf ++ _).length = _
      have e4 : (st.buf ++ (st.src.data.drop st.src.pos).take k).length = B + (bytesV ((st.src.data.drop st.src.pos).take k)).length := by rw [List.length_append, HB.out, bytesV_length]
      rw [e4]
      simp only [List.toList_toArray]
      rw [take_splice (by rw [hlen, hcl]; omega), Hct.out, ← bytesV_append]
      rfl
    · exact (HS3.out.keep hk4 (fun e => n2 e.symm) (fun i _ e => .inl e))
end Go.Proofs.YtfigpbcmnlkdjaaDoor
