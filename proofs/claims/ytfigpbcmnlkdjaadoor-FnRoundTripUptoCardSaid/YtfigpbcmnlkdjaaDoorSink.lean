/-
  The sink that is written to: how it lies in memory, and the walk of its Write.
-/
import Derived.Test.YtfigpbcmnlkdjaaDoorCopied
import Derived.Test.YtfigpbcmnlkdjaaDoorPureW
namespace Go.Proofs.YtfigpbcmnlkdjaaDoor
open Go.RowKit

/-- A sink in block bs, what it has taken in the slice gv; all from block B on. -/
structure SnkAt (w : World) (bs : Nat) (gv : Value) (s : Snk) (B : Nat) : Prop where
  cells : w.heap[bs]? = some (.cells #[.int .i64 s.room, gv] 64 (0, 0))
  own : w.ownsRow B 5 1 gv s.got.length (bytesV s.got)
  ne : gv.ownBlock ≠ some bs
  le : B ≤ bs

theorem SnkAt.drew {w : World} {bs : Nat} {gv : Value} {s : Snk} {B : Nat} (h : SnkAt w bs gv s B) : SnkAt w.drew bs gv s B := ⟨h.cells, h.own, h.ne, h.le⟩

theorem SnkAt.keep {S : Nat → Prop} {w w' : World} {bs : Nat} {gv : Value} {s : Snk} {B : Nat} (h : SnkAt w bs gv s B) (k : Keep S w w') (hb : ¬ S bs) (hg : ∀ i, gv.ownBlock = some i → ¬ S i) : SnkAt w' bs gv s B :=
  ⟨(k.block bs (Array.getElem?_eq_some_iff.1 h.cells).1 hb).trans h.cells, ownsRow_keep h.own k hg, h.ne, h.le⟩

/-- What a sink's Write may change. -/
def sinkSet (bs : Nat) (gv : Value) : Nat → Prop := fun k => k = bs ∨ gv.ownBlock = some k

set_option maxRecDepth 100000 in
set_option maxHeartbeats 1000000 in
theorem sinkWrite (w : World) (bs : Nat) (gv : Value) (s : Snk) (B : Nat) (p : Value) (l : List UInt8) (es : Value) (h : SnkAt w bs gv s B) (hp : BytesAt w p l) (hpb : ¬ Value.inBlock p bs)
    (hes : w.cell? ⟨7, 0, none⟩ = some es) (hgl : 7 < B) (hr1 : -9223372036854775807 ≤ s.room + 1) (hr2 : s.room ≤ 9223372036854775807) (hl : s.got.length + l.length ≤ 140737488355328) :
    Calls Tryd.prog 60 #[.pointer (some ⟨bs, 0, none⟩), p] w fun e w' =>
      e = .returned (.tuple #[.int .i64 (s.fits l.length), if s.fits l.length < l.length then es else .nilIface]) ∧
      ∃ gv', SnkAt w' bs gv' (s.put l) B ∧ (∀ k, gv'.ownBlock = some k → gv.ownBlock = some k ∨ w.heap.size ≤ k) ∧ Keep (sinkSet bs gv) w w' := by
  obtain ⟨h0, hown, hne, hB⟩ := h
  obtain ⟨i0, hi, hz0, hz1, hz2⟩ := info_parts infoByte
  obtain ⟨a, c, rfl, p1, p2, p3, p4⟩ := id hp
  have HL := Lib.hid (bytesV_length l)
  rw [bytesV_length] at p1 hp hpb ⊢
  obtain ⟨ag, cg, rfl⟩ := ownsRow_slice hown
  have c0 : w.cell? ⟨bs, 0, none⟩ = some (.int .i64 s.room) := by simp [World.cell?, h0]
  have c1 : w.cell? ⟨bs, 1, none⟩ = some (.slice ag s.got.length cg) := by simp [World.cell?, h0]
  have f0 : w.frozen? ⟨bs, 0, none⟩ = false := by simp [World.frozen?, h0]
  have f1 : w.frozen? ⟨bs, 1, none⟩ = false := by simp [World.frozen?, h0]
  have H0 := Lib.hid h0
  have Hown := Lib.hid hown
  have Hr1 := Lib.hid hr1
  have Hne := Lib.hid hne
  clear h0 hown p3 p4 hr1 p2 hne
  obtain ⟨k, hk⟩ : ∃ k, k = s.fits l.length := ⟨_, rfl⟩
  have hk0 : (k : Int) = min (l.length : Int) (max 0 s.room) := by subst hk; unfold Snk.fits; omega
  have hk1 : k ≤ l.length := by omega
  have hb1 : -9223372036854775807 ≤ s.room - k + 1 := by have := Hr1.out; omega
  have hb2 : s.room - k ≤ 9223372036854775807 := by omega
  have HK0 := Lib.hid hk0
  have HK := Lib.hid hk
  rw [← hk]
  have HP : Hid (s.put l = { room := s.room - k, got := s.got ++ l.take k }) := by unfold Hid Snk.put; rw [← hk]
  rw [HP.out]
  clear hk hk0 HK
  have hsl := slice_upto (P := Tryd.prog) 23 5 Tryd.underlying23 sizeByte a l.length c k (by omega) .i64
  go_enter Tryd.func60, Tryd.ntmps60
  go_upto_region 1 with fail
  go_cut [6] (fun n wc => n = .int .i64 k ∧ w = wc)
  case first =>
    have hk0 := HK0.out
    by_cases h1 : 0 < s.room
    · by_cases h2 : (l.length : Int) < s.room
      · obtain rfl : k = l.length := by omega
        clear hk0
        go_wp2_with fail; go_meet; exact ⟨rfl, rfl⟩
      · have e : s.room = k := by omega
        rw [e] at c0
        clear hk0 hb1 hb2
        by_cases h3 : k < l.length
        · go_wp2_with fail; go_meet; exact ⟨rfl, rfl⟩
        · obtain rfl : k = l.length := by omega
          go_wp2_with fail; go_meet; exact ⟨rfl, rfl⟩
    · obtain rfl : k = 0 := by omega
      clear hk0
      by_cases h3 : 0 < l.length
      · go_wp2_with fail; go_meet; exact ⟨rfl, rfl⟩
      · have h4 : l.length = 0 := by omega
        have H4 := Lib.hid h4
        clear h4
        go_wp2_with fail; go_meet; exact ⟨by rw [H4.out], rfl⟩
  case rest =>
    obtain ⟨rfl, rfl⟩ := hcut
    have hrow : RowAt (w.setCell ⟨bs, 0, none⟩ (.int .i64 (s.room - k))) (.slice a k c) (bytesV (l.take k)) := by
      have h1 := RowAt.upto hp (k := k) (by rw [HL.out]; exact hk1)
      have h2 : (bytesV l).take k = bytesV (l.take k) := by simp [bytesV]
      rw [h2] at h1
      refine h1.keep (S := fun i => i = bs) ((Keep.refl _ w).set1 0 _) (fun i hi e => hpb ?_)
      obtain ⟨ad, n', c', e1, e2, e3⟩ := hi
      simp only [Value.slice.injEq] at e1
      obtain ⟨rfl, rfl, rfl⟩ := e1
      exact ⟨ad, _, _, rfl, by omega, by rw [e3, e]⟩
    have hown1 : (w.setCell ⟨bs, 0, none⟩ (.int .i64 (s.room - k))).ownsRow B 5 1 (.slice ag s.got.length cg) s.got.length (bytesV s.got) :=
      ownsRow_keep Hown.out (S := fun i => i = bs) ((Keep.refl _ w).set1 0 _) (fun i hi e => Hne.out (e ▸ hi))
    have hBw : B ≤ w.heap.size := by have := World.block_lt_of_cell? w _ c0; have : bs < w.heap.size := this; omega
    have hlk : (bytesV (l.take k)).length = k := by rw [bytesV_length]; simp; omega
    have h0' := heap_set (o := 0) H0.out (.int .i64 (s.room - k))
    have hlt : bs < (w.setCell ⟨bs, 0, none⟩ (.int .i64 (s.room - k))).drew.heap.size := (Array.getElem?_eq_some_iff.1 h0').1
    have Hlt := Lib.hid hlt
    have H0' : Hid ((w.setCell ⟨bs, 0, none⟩ (.int .i64 (s.room - k))).drew.heap[bs]? = some (.cells #[.int .i64 (s.room - k), .slice ag s.got.length cg] 64 (0, 0))) := h0'.trans (by simp)
    clear h0' hlt
    have HR := Lib.hid hrow
    have HO := Lib.hid hown1
    have Hlk := Lib.hid hlk
    have Hp := Lib.hid hp
    clear hrow hown1 hlk hp
    go_wp2_with fail
    go_region_law (refine step_append_row rfl _ _ 23 (by rfl) B 5 i0 (.int .u8 0) 1 1 Tryd.underlying23 hi hz0 hz1 hz2 rfl (by decide) _ s.got.length (bytesV s.got) (by rfl) HO.out a k c (bytesV (l.take k)) (by rfl) HR.out.parts.2.2.1 (by rw [Hlk.out]; omega) HR.out.parts.2.2.2 (bytesV_one _) (by unfold maxLen; omega) (by omega) (by simpa using hBw) ?_; intro a3 n3 w2 ho2 hg2 hb2; have H2 := Lib.hid ((hg2.block bs Hlt.out (fun e => Hne.out e.symm)).trans H0'.out); have q1 : w2.cell? ⟨bs, 1, none⟩ = some (.slice ag s.got.length cg) := cell_of (o := 1) H2.out rfl; have q2 : w2.frozen? ⟨bs, 1, none⟩ = false := frozen_of H2.out)
    clear q1 q2
    have k1 : Keep (sinkSet bs (.slice ag s.got.length cg)) w (w.setCell ⟨bs, 0, none⟩ (.int .i64 (s.room - k))).drew := ((Keep.refl _ w).setCell (.inl (.inl rfl)) _).drew
    have k2 : Keep (sinkSet bs (.slice ag s.got.length cg)) w w2 := k1.grown hg2 (fun i hi => .inl (.inr hi))
    have k3 : Keep (sinkSet bs (.slice ag s.got.length cg)) w (w2.setCell ⟨bs, 1, none⟩ (.slice a3 (s.got.length + k) n3)) := k2.setCell (.inl (.inl rfl)) _
    have hes3 : (w2.setCell ⟨bs, 1, none⟩ (.slice a3 (s.got.length + k) n3)).cell? ⟨7, 0, none⟩ = some es := by
      refine k3.cellAt hes (fun hS => ?_)
      rcases hS with hS | hS
      · simp only at hS; omega
      · have := (Hown.out.lt _ hS).1
        simp only at this; omega
    have hsz : (w.setCell ⟨bs, 0, none⟩ (.int .i64 (s.room - k))).drew.heap.size = w.heap.size := by simp
    have hne3 : (Value.slice a3 (s.got.length + k) n3).ownBlock ≠ some bs := fun e => by
      rcases hb2 bs e with h | h
      · exact Hne.out h
      · have := Hlt.out
        omega
    have hs3 : SnkAt (w2.setCell ⟨bs, 1, none⟩ (.slice a3 (s.got.length + k) n3)) bs (.slice a3 (s.got.length + k) n3) { room := s.room - k, got := s.got ++ l.take k } B := by
      refine ⟨(heap_set H2.out _).trans (by simp), ?_, hne3, hB⟩
      have e1 : (s.got ++ l.take k).length = s.got.length + k := by simp; omega
      show World.ownsRow _ B 5 1 _ (s.got ++ l.take k).length (bytesV (s.got ++ l.take k))
      rw [e1, bytesV_append]
      exact ownsRow_keep ho2 ((Keep.refl _ w2).set1 1 _) (fun i hi e => hne3 (e ▸ hi))
    have HP3 : Hid (∃ gv', SnkAt (w2.setCell ⟨bs, 1, none⟩ (.slice a3 (s.got.length + k) n3)) bs gv' { room := s.room - k, got := s.got ++ l.take k } B ∧ (∀ i, gv'.ownBlock = some i → (Value.slice ag s.got.length cg).ownBlock = some i ∨ w.heap.size ≤ i) ∧ Keep (sinkSet bs (.slice ag s.got.length cg)) w (w2.setCell ⟨bs, 1, none⟩ (.slice a3 (s.got.length + k) n3))) :=
      ⟨_, hs3, fun i hi => by
        rcases hb2 i hi with h | h
        · exact .inl h
        · right; omega, k3⟩
    clear hs3 hne3 hsz k1 k2 k3 ho2 hg2 hb2 H2 HO HR H0' Hown H0 c0 c1 f0 f1 hsl
    by_cases hlt : k < l.length
    · go_wp2
      go_region
      go_wp2
      go_ret2
      obtain ⟨gv', r1, r2, r3⟩ := HP3.out
      exact ⟨rfl, gv', r1.drew, r2, r3.drew⟩
    · go_wp2
      go_ret2
      exact ⟨rfl, HP3.out⟩

/-- Write where all fits. -/
theorem sinkWrite_all (w : World) (bs : Nat) (gv : Value) (s : Snk) (B : Nat) (p : Value) (l : List UInt8) (es : Value) (h : SnkAt w bs gv s B) (hp : BytesAt w p l) (hpb : ¬ Value.inBlock p bs)
    (hes : w.cell? ⟨7, 0, none⟩ = some es) (hgl : 7 < B) (hr1 : -9223372036854775807 ≤ s.room + 1) (hr2 : s.room ≤ 9223372036854775807) (hl : s.got.length + l.length ≤ 140737488355328)
    (hfit : s.fits l.length = l.length) :
    Calls Tryd.prog 60 #[.pointer (some ⟨bs, 0, none⟩), p] w fun e w' =>
      e = .returned (.tuple #[.int .i64 l.length, .nilIface]) ∧
      ∃ gv', SnkAt w' bs gv' (s.put l) B ∧ (∀ k, gv'.ownBlock = some k → gv.ownBlock = some k ∨ w.heap.size ≤ k) ∧ Keep (sinkSet bs gv) w w' :=
  (sinkWrite w bs gv s B p l es h hp hpb hes hgl hr1 hr2 hl).mono fun _ _ ⟨he, hr⟩ => ⟨by rw [he, hfit, if_neg (by omega)], hr⟩

/-- Write where not all fits. -/
theorem sinkWrite_some (w : World) (bs : Nat) (gv : Value) (s : Snk) (B : Nat) (p : Value) (l : List UInt8) (es : Value) (h : SnkAt w bs gv s B) (hp : BytesAt w p l) (hpb : ¬ Value.inBlock p bs)
    (hes : w.cell? ⟨7, 0, none⟩ = some es) (hgl : 7 < B) (hr1 : -9223372036854775807 ≤ s.room + 1) (hr2 : s.room ≤ 9223372036854775807) (hl : s.got.length + l.length ≤ 140737488355328)
    (k : Nat) (hk : s.fits l.length = k) (hlt : k < l.length) :
    Calls Tryd.prog 60 #[.pointer (some ⟨bs, 0, none⟩), p] w fun e w' =>
      e = .returned (.tuple #[.int .i64 k, es]) ∧
      ∃ gv', SnkAt w' bs gv' (s.put l) B ∧ (∀ k, gv'.ownBlock = some k → gv.ownBlock = some k ∨ w.heap.size ≤ k) ∧ Keep (sinkSet bs gv) w w' :=
  (sinkWrite w bs gv s B p l es h hp hpb hes hgl hr1 hr2 hl).mono fun _ _ ⟨he, hr⟩ => ⟨by rw [he, hk, if_pos (by omega)], hr⟩

end Go.Proofs.YtfigpbcmnlkdjaaDoor
