/-
  The documentation's flow in memory: starts, rooted, taken, got and reset of the reference.
-/
import Derived.Test.YtegbfhfmbjdjiaaDoorPureA
import Derived.Test.YtegbfhfmbjdjiaaDoorEqual
import Derived.Test.YtegbfhfmbjdjiaaDoorSink
namespace Go.Proofs.YtegbfhfmbjdjiaaDoor
open Go.RowKit

def StInv (w : World) (n : Nat) (g : Nat) (i : Value) (wr : World) : Prop := ∃ k : Nat, k ≤ n ∧ i = .int .i64 k ∧ New w wr ∧ g = n - k

set_option maxRecDepth 100000 in
theorem starts_true (w : World) (a1 a2 : Option Addr) (c1 c2 n1 n2 : Nat) (x y : List UInt8) (h1 : BytesAt w (.slice a1 n1 c1) x) (h2 : BytesAt w (.slice a2 n2 c2) y) (hn1 : x.length = n1) (hn2 : y.length = n2) (hl : n2 ≤ n1) (hxy : y = x.take n2) (hx : n1 ≤ 9223372036854775807) :
    Calls Tryd.prog 32 #[.slice a1 n1 c1, .slice a2 n2 c2] w fun e w' => e = .returned (.bool true) ∧ New w w' := by
  have H0 : Hid (StInv w n2 n2 (.int .i64 0) w) := ⟨0, Nat.zero_le _, rfl, Keep.refl _ _, rfl⟩
  have H1 := Lib.hid h1
  have H2 := Lib.hid h2
  have Hn1 := Lib.hid hn1
  have Hn2 := Lib.hid hn2
  have Hxy := Lib.hid hxy
  have hnl : ¬ (n1 : Int) < n2 := by omega
  clear h1 h2 hn1 hn2 hxy
  go_enter Tryd.func32, Tryd.ntmps32
  go_wp2_with fail
  go_loopg [13, 5] n2 (fun g i p wr => StInv w n2 g i wr)
  case atStart => exact H0.out
  case round =>
    obtain ⟨k, hk, rfl, hnw, rfl⟩ := hrel
    by_cases hlt : k < n2
    · have hlx : k < x.length := by have := Hn1.out; omega
      have hly : k < y.length := by have := Hn2.out; omega
      obtain ⟨b1, o1, rfl, hc1⟩ := bytes_one (H1.out.new hnw) hlx
      obtain ⟨b2, o2, rfl, hc2⟩ := bytes_one (H2.out.new hnw) hly
      have q1 := hc1 k hlx
      have q2 := hc2 k hly
      have huv : y[k] = x[k] := by
        have e := Hxy.out
        have : y[k]? = (x.take n2)[k]? := by rw [← e]
        rw [List.getElem?_take, if_pos hlt, List.getElem?_eq_getElem hlx, List.getElem?_eq_getElem hly] at this
        exact Option.some.inj this
      obtain ⟨u, hu⟩ : ∃ u : UInt8, u = x[k] := ⟨_, rfl⟩
      rw [huv] at q2
      rw [← hu] at q1 q2
      have Hnw := Lib.hid hnw
      have b1' := u.toNat_lt
      have hlt' : (k : Int) < n2 := by omega
      have hlt1 : (k : Int) < n1 := by omega
      have hb : ((u.toNat : Int) != u.toNat) = false := by simp
      clear hc1 hc2 hu huv hnw hlx hly
      go_wp2_with fail
      go_quiet (fail)
      go_wp2
      go_roundg (n2 - (k + 1))
      case measure => omega
      case rel => exact ⟨k + 1, hlt, by go_num, Hnw.out.drewN _, rfl⟩
    · obtain rfl : k = n2 := by omega
      have hlt' : ¬ ((k : Int) < k) := by omega
      go_wp2
      go_ret
      exact ⟨rfl, hnw⟩

theorem rooted_any (w : World) (r : Int) (m : Nat) (hm : r.toNat = m) (r1 : -9223372036854775807 ≤ r + 1) (r2 : r ≤ 9223372036854775807) :
    Calls Tryd.prog 15 #[.agg #[.int .i64 r]] w fun e w' => e = .returned (.agg #[.int .i64 m, .slice none 0 0, .bool false, .int .i64 0]) ∧ New w w' := by
  by_cases h : 0 < r
  · obtain rfl : r = (m : Int) := by omega
    clear hm
    go_enter Tryd.func15, Tryd.ntmps15
    go_wp2
    refine bodyPost_ret (v := .agg #[.int .i64 m, .slice none 0 0, .bool false, .int .i64 0]) (by simp [results, Tryd.results15, go_sem]) rfl ?_
    exact ⟨rfl, by repeat (first | exact Keep.refl _ _ | apply Keep.drew | apply Keep.alloc | refine Keep.setCell ?_ (.inr (by simp)) _)⟩
  · obtain rfl : m = 0 := by omega
    clear hm
    go_enter Tryd.func15, Tryd.ntmps15
    go_wp2
    refine bodyPost_ret (v := .agg #[.int .i64 0, .slice none 0 0, .bool false, .int .i64 0]) (by simp [results, Tryd.results15, go_sem]) rfl ?_
    exact ⟨rfl, by repeat (first | exact Keep.refl _ _ | apply Keep.drew | apply Keep.alloc | refine Keep.setCell ?_ (.inr (by simp)) _)⟩

/-- A flow in block fb, what was accepted in the slice v. -/
structure FlowAt (w : World) (fb : Nat) (v : Value) (f : Flow) (B : Nat) : Prop where
  cells : w.heap[fb]? = some (.cells #[.int .i64 f.room, v, .bool f.failed, .int .i64 f.flushed] 52 (0, 0))
  own : w.ownsRow B 5 1 v f.all.length (bytesV f.all)
  ne : v.ownBlock ≠ some fb
  le : B ≤ fb

theorem FlowAt.keep {S : Nat → Prop} {w w' : World} {fb : Nat} {v : Value} {f : Flow} {B : Nat} (h : FlowAt w fb v f B) (k : Keep S w w') (hb : ¬ S fb) (hg : ∀ i, v.ownBlock = some i → ¬ S i) : FlowAt w' fb v f B :=
  ⟨(k.block fb (Array.getElem?_eq_some_iff.1 h.cells).1 hb).trans h.cells, ownsRow_keep h.own k hg, h.ne, h.le⟩

/-- What of a flow may change. -/
def flowSet (fb : Nat) (v : Value) : Nat → Prop := fun k => k = fb ∨ v.ownBlock = some k

/-- What a call on a flow leaves. -/
def FlowDone (w : World) (fb : Nat) (v : Value) (f : Flow) (B : Nat) (e : Ending) (w' : World) : Prop :=
  e = .returned (.bool true) ∧ ∃ v', FlowAt w' fb v' f B ∧ (∀ k, v'.ownBlock = some k → v.ownBlock = some k ∨ w.heap.size ≤ k) ∧ Keep (flowSet fb v) w w'

set_option maxRecDepth 100000 in
set_option maxHeartbeats 2000000 in
theorem taken_fine (w : World) (fb : Nat) (ag a : Option Addr) (cg na nx c room flushed B : Nat) (all x : List UInt8) (h0 : w.heap[fb]? = some (.cells #[.int .i64 room, .slice ag na cg, .bool false, .int .i64 flushed] 52 (0, 0)))
    (hown : w.ownsRow B 5 1 (.slice ag na cg) na (bytesV all)) (hne : (Value.slice ag na cg).ownBlock ≠ some fb) (hB : B ≤ fb) (hna : all.length = na) (hx : BytesAt w (.slice a nx c) x) (hnx : x.length = nx) (hl : na + nx ≤ 140737488355328) (hr : room ≤ 9223372036854775807) :
    Calls Tryd.prog 30 #[.pointer (some ⟨fb, 0, none⟩), .slice a nx c, .int .i64 nx, .int .i64 0] w (FlowDone w fb (.slice ag na cg) ⟨room, all ++ x.take nx, false, flushed⟩ B) := by
  obtain ⟨i0, hi, hz0, hz1, hz2⟩ := info_parts infoByte
  have hcx : nx ≤ c := by have := (RowAt.parts hx).2.1; rw [bytesV_length] at this; omega
  have hnn : nx ≤ nx := by omega
  have c0 : w.cell? ⟨fb, 0, none⟩ = some (.int .i64 room) := cell_of h0 rfl
  have c1 : w.cell? ⟨fb, 1, none⟩ = some (.slice ag na cg) := cell_of h0 rfl
  have c2 : w.cell? ⟨fb, 2, none⟩ = some (.bool false) := cell_of h0 rfl
  have f1 : w.frozen? ⟨fb, 1, none⟩ = false := frozen_of h0
  have f2 : w.frozen? ⟨fb, 2, none⟩ = false := frozen_of h0
  have hsl : ∀ w, (Instr.slice 28 (.slice a nx c) none (some (.int .i64 nx)) none).run Tryd.prog w = .ok (.slice a nx c) w := slice_upto (P := Tryd.prog) 28 5 Tryd.underlying28 sizeByte a nx c nx (by omega) .i64
  have hrow : RowAt w (.slice a nx c) (bytesV (x.take nx)) := by
    have h1 := RowAt.upto hx (k := nx) (by rw [bytesV_length]; omega)
    rw [show (bytesV x).take nx = bytesV (x.take nx) from by simp [bytesV]] at h1
    exact h1
  have hlk : (bytesV (x.take nx)).length = nx := by rw [bytesV_length, List.length_take]; omega
  have hlt : fb < w.drew.heap.size := (Array.getElem?_eq_some_iff.1 h0).1
  have Hlt := Lib.hid hlt
  have H0' : Hid (w.drew.heap[fb]? = some (.cells #[.int .i64 room, .slice ag na cg, .bool false, .int .i64 flushed] 52 (0, 0))) := h0
  have HR := Lib.hid hrow
  have HO := Lib.hid hown
  have Hlk := Lib.hid hlk
  have Hne := Lib.hid hne
  have Hna := Lib.hid hna
  have Hnx := Lib.hid hnx
  have hBw : B ≤ w.heap.size := by have : fb < w.heap.size := hlt; omega
  clear h0 hown hne hna hx hnx hrow hlk hlt
  go_enter Tryd.func30, Tryd.ntmps30
  go_wp2_with fail
  go_region_law (refine step_append_row rfl _ _ 28 (by rfl) B 5 i0 (.int .u8 0) 1 1 Tryd.underlying28 hi hz0 hz1 hz2 rfl (by decide) _ na (bytesV all) (by rfl) HO.out a nx c (bytesV (x.take nx)) (by rfl) HR.out.parts.2.2.1 (by first | (rw [Hlk.out]; omega) | rw [Hlk.out]) HR.out.parts.2.2.2 (bytesV_one _) (by unfold maxLen; omega) (by omega) (by simpa using hBw) ?_; intro a3 n3 w2 ho2 hg2 hb2; have H2 := Lib.hid ((hg2.block fb Hlt.out (fun e => Hne.out e.symm)).trans H0'.out); have q1 : w2.cell? ⟨fb, 1, none⟩ = some (.slice ag na cg) := cell_of (o := 1) H2.out rfl; have q2 : w2.frozen? ⟨fb, 1, none⟩ = false := frozen_of H2.out)
  clear q1 q2
  have k1 : Keep (flowSet fb (.slice ag na cg)) w w.drew := (Keep.refl _ w).drew
  have k2 : Keep (flowSet fb (.slice ag na cg)) w w2 := k1.grown hg2 (fun i hi => .inl (.inr hi))
  have k3 : Keep (flowSet fb (.slice ag na cg)) w (w2.setCell ⟨fb, 1, none⟩ (.slice a3 (na + nx) n3)) := k2.setCell (.inl (.inl rfl)) _
  have hne3 : (Value.slice a3 (na + nx) n3).ownBlock ≠ some fb := fun e => by
    rcases hb2 fb e with h | h
    · exact Hne.out h
    · have := Hlt.out
      omega
  have H3 : Hid ((w2.setCell ⟨fb, 1, none⟩ (.slice a3 (na + nx) n3)).heap[fb]? = some (.cells #[.int .i64 room, .slice a3 (na + nx) n3, .bool false, .int .i64 flushed] 52 (0, 0))) := (heap_set H2.out _).trans (by simp)
  have HO3 : Hid ((w2.setCell ⟨fb, 1, none⟩ (.slice a3 (na + nx) n3)).ownsRow B 5 1 (.slice a3 (na + nx) n3) (na + nx) (bytesV (all ++ x.take nx))) := by
    rw [bytesV_append]
    exact ownsRow_keep ho2 ((Keep.refl _ w2).set1 1 _) (fun i hi e => hne3 (e ▸ hi))
  have Hb3 : Hid (∀ k, (Value.slice a3 (na + nx) n3).ownBlock = some k → (Value.slice ag na cg).ownBlock = some k ∨ w.heap.size ≤ k) := fun i hi => by
    rcases hb2 i hi with h | h
    · exact .inl h
    · right; rw [h]; exact Nat.le_refl _
  have Hne3 := Lib.hid hne3
  have HK3 := Lib.hid k3
  have HLn : Hid ((all ++ x.take nx).length = na + nx) := by show _ = _; rw [List.length_append, Hna.out, ← bytesV_length, Hlk.out]
  clear hne3 k1 k2 k3 ho2 hg2 hb2 H2 HO HR H0' c0 c1 c2 f1 f2 hsl
  go_wp2
  first | go_ret2 | go_ret
  exact ⟨rfl, _, ⟨H3.out, by show World.ownsRow _ _ _ _ _ (all ++ _).length _; rw [HLn.out]; exact HO3.out, Hne3.out, hB⟩, Hb3.out, HK3.out⟩


set_option maxRecDepth 100000 in
set_option maxHeartbeats 2000000 in
theorem taken_oldz (w : World) (fb : Nat) (ag a : Option Addr) (cg na nx c room flushed B : Nat) (all x : List UInt8) (h0 : w.heap[fb]? = some (.cells #[.int .i64 room, .slice ag na cg, .bool true, .int .i64 flushed] 52 (0, 0)))
    (hown : w.ownsRow B 5 1 (.slice ag na cg) na (bytesV all)) (hne : (Value.slice ag na cg).ownBlock ≠ some fb) (hB : B ≤ fb) (hna : all.length = na) (hx : BytesAt w (.slice a nx c) x) (hnx : x.length = nx) (hl : na + nx ≤ 140737488355328) (hr : room ≤ 9223372036854775807) (hz : nx = 0) :
    Calls Tryd.prog 30 #[.pointer (some ⟨fb, 0, none⟩), .slice a nx c, .int .i64 0, .int .i64 9] w (FlowDone w fb (.slice ag na cg) ⟨room, all ++ x.take 0, true, flushed⟩ B) := by
  obtain ⟨i0, hi, hz0, hz1, hz2⟩ := info_parts infoByte
  have hcx : nx ≤ c := by have := (RowAt.parts hx).2.1; rw [bytesV_length] at this; omega
  have hnn : 0 ≤ nx := by omega
  have c0 : w.cell? ⟨fb, 0, none⟩ = some (.int .i64 room) := cell_of h0 rfl
  have c1 : w.cell? ⟨fb, 1, none⟩ = some (.slice ag na cg) := cell_of h0 rfl
  have c2 : w.cell? ⟨fb, 2, none⟩ = some (.bool true) := cell_of h0 rfl
  have f1 : w.frozen? ⟨fb, 1, none⟩ = false := frozen_of h0
  have f2 : w.frozen? ⟨fb, 2, none⟩ = false := frozen_of h0
  have hsl : ∀ w, (Instr.slice 28 (.slice a nx c) none (some (.int .i64 0)) none).run Tryd.prog w = .ok (.slice a 0 c) w := slice_upto (P := Tryd.prog) 28 5 Tryd.underlying28 sizeByte a nx c 0 (by omega) .i64
  have hrow : RowAt w (.slice a 0 c) (bytesV (x.take 0)) := by
    have h1 := RowAt.upto hx (k := 0) (by rw [bytesV_length]; omega)
    rw [show (bytesV x).take 0 = bytesV (x.take 0) from by simp [bytesV]] at h1
    exact h1
  have hlk : (bytesV (x.take 0)).length = 0 := by rw [bytesV_length, List.length_take]; omega
  have hlt : fb < w.drew.heap.size := (Array.getElem?_eq_some_iff.1 h0).1
  have Hlt := Lib.hid hlt
  have H0' : Hid (w.drew.heap[fb]? = some (.cells #[.int .i64 room, .slice ag na cg, .bool true, .int .i64 flushed] 52 (0, 0))) := h0
  have HR := Lib.hid hrow
  have HO := Lib.hid hown
  have Hlk := Lib.hid hlk
  have Hne := Lib.hid hne
  have Hna := Lib.hid hna
  have Hnx := Lib.hid hnx
  have hBw : B ≤ w.heap.size := by have : fb < w.heap.size := hlt; omega
  have hz' : ¬ (0 : Int) < nx := by omega
  clear hz
  clear h0 hown hne hna hx hnx hrow hlk hlt
  go_enter Tryd.func30, Tryd.ntmps30
  go_wp2_with fail
  go_region_law (refine step_append_row rfl _ _ 28 (by rfl) B 5 i0 (.int .u8 0) 1 1 Tryd.underlying28 hi hz0 hz1 hz2 rfl (by decide) _ na (bytesV all) (by rfl) HO.out a 0 c (bytesV (x.take 0)) (by rfl) HR.out.parts.2.2.1 (by first | (rw [Hlk.out]; omega) | rw [Hlk.out]) HR.out.parts.2.2.2 (bytesV_one _) (by unfold maxLen; omega) (by omega) (by simpa using hBw) ?_; intro a3 n3 w2 ho2 hg2 hb2; have H2 := Lib.hid ((hg2.block fb Hlt.out (fun e => Hne.out e.symm)).trans H0'.out); have q1 : w2.cell? ⟨fb, 1, none⟩ = some (.slice ag na cg) := cell_of (o := 1) H2.out rfl; have q2 : w2.frozen? ⟨fb, 1, none⟩ = false := frozen_of H2.out)
  clear q1 q2
  have k1 : Keep (flowSet fb (.slice ag na cg)) w w.drew := (Keep.refl _ w).drew
  have k2 : Keep (flowSet fb (.slice ag na cg)) w w2 := k1.grown hg2 (fun i hi => .inl (.inr hi))
  have k3 : Keep (flowSet fb (.slice ag na cg)) w (w2.setCell ⟨fb, 1, none⟩ (.slice a3 (na + 0) n3)) := k2.setCell (.inl (.inl rfl)) _
  have hne3 : (Value.slice a3 (na + 0) n3).ownBlock ≠ some fb := fun e => by
    rcases hb2 fb e with h | h
    · exact Hne.out h
    · have := Hlt.out
      omega
  have H3 : Hid ((w2.setCell ⟨fb, 1, none⟩ (.slice a3 (na + 0) n3)).heap[fb]? = some (.cells #[.int .i64 room, .slice a3 (na + 0) n3, .bool true, .int .i64 flushed] 52 (0, 0))) := (heap_set H2.out _).trans (by simp)
  have HO3 : Hid ((w2.setCell ⟨fb, 1, none⟩ (.slice a3 (na + 0) n3)).ownsRow B 5 1 (.slice a3 (na + 0) n3) (na + 0) (bytesV (all ++ x.take 0))) := by
    rw [bytesV_append]
    exact ownsRow_keep ho2 ((Keep.refl _ w2).set1 1 _) (fun i hi e => hne3 (e ▸ hi))
  have Hb3 : Hid (∀ k, (Value.slice a3 (na + 0) n3).ownBlock = some k → (Value.slice ag na cg).ownBlock = some k ∨ w.heap.size ≤ k) := fun i hi => by
    rcases hb2 i hi with h | h
    · exact .inl h
    · right; rw [h]; exact Nat.le_refl _
  have Hne3 := Lib.hid hne3
  have HK3 := Lib.hid k3
  have HLn : Hid ((all ++ x.take 0).length = na + 0) := by show _ = _; rw [List.length_append, Hna.out, ← bytesV_length, Hlk.out]
  have r0 : (w2.setCell ⟨fb, 1, none⟩ (.slice a3 (na + 0) n3)).cell? ⟨fb, 0, none⟩ = some (.int .i64 room) := cell_of H3.out rfl
  have r1 : (w2.setCell ⟨fb, 1, none⟩ (.slice a3 (na + 0) n3)).cell? ⟨fb, 1, none⟩ = some (.slice a3 (na + 0) n3) := cell_of H3.out rfl
  have r2 : (w2.setCell ⟨fb, 1, none⟩ (.slice a3 (na + 0) n3)).cell? ⟨fb, 2, none⟩ = some (.bool true) := cell_of H3.out rfl
  have g2 : (w2.setCell ⟨fb, 1, none⟩ (.slice a3 (na + 0) n3)).frozen? ⟨fb, 2, none⟩ = false := frozen_of H3.out
  generalize w2.setCell ⟨fb, 1, none⟩ (.slice a3 (na + 0) n3) = w3 at H3 HO3 HK3 r0 r1 r2 g2 ⊢
  clear hne3 k1 k2 k3 ho2 hg2 hb2 H2 HO HR H0' c0 c1 c2 f1 f2 hsl
  go_wp2
  go_region
  go_wp2
  first | go_ret2 | go_ret
  have hk4 : Keep (fun i => i = fb) w3 (w3.drew.setCell ⟨fb, 2, none⟩ (.bool true)) := ((Keep.refl _ w3).drew).set1 2 _
  exact ⟨by first | rfl | (show Ending.returned (.bool (decide ((room : Int) < (na : Int) + nx))) = _; rw [decide_eq_true (by omega)]), _, ⟨(heap_set (w := w3.drew) H3.out _).trans (by simp), by show World.ownsRow _ _ _ _ _ (all ++ _).length _; rw [HLn.out]; exact ownsRow_keep HO3.out hk4 (fun i hi e => Hne3.out (e ▸ hi)), Hne3.out, hB⟩, Hb3.out, HK3.out.trans hk4 (fun i _ e => .inl e)⟩


set_option maxRecDepth 100000 in
set_option maxHeartbeats 2000000 in
theorem taken_old (w : World) (fb : Nat) (ag a : Option Addr) (cg na nx c room flushed B : Nat) (all x : List UInt8) (h0 : w.heap[fb]? = some (.cells #[.int .i64 room, .slice ag na cg, .bool true, .int .i64 flushed] 52 (0, 0)))
    (hown : w.ownsRow B 5 1 (.slice ag na cg) na (bytesV all)) (hne : (Value.slice ag na cg).ownBlock ≠ some fb) (hB : B ≤ fb) (hna : all.length = na) (hx : BytesAt w (.slice a nx c) x) (hnx : x.length = nx) (hl : na + nx ≤ 140737488355328) (hr : room ≤ 9223372036854775807) (hz : 0 < nx) :
    Calls Tryd.prog 30 #[.pointer (some ⟨fb, 0, none⟩), .slice a nx c, .int .i64 0, .int .i64 9] w (FlowDone w fb (.slice ag na cg) ⟨room, all ++ x.take 0, true, flushed⟩ B) := by
  obtain ⟨i0, hi, hz0, hz1, hz2⟩ := info_parts infoByte
  have hcx : nx ≤ c := by have := (RowAt.parts hx).2.1; rw [bytesV_length] at this; omega
  have hnn : 0 ≤ nx := by omega
  have c0 : w.cell? ⟨fb, 0, none⟩ = some (.int .i64 room) := cell_of h0 rfl
  have c1 : w.cell? ⟨fb, 1, none⟩ = some (.slice ag na cg) := cell_of h0 rfl
  have c2 : w.cell? ⟨fb, 2, none⟩ = some (.bool true) := cell_of h0 rfl
  have f1 : w.frozen? ⟨fb, 1, none⟩ = false := frozen_of h0
  have f2 : w.frozen? ⟨fb, 2, none⟩ = false := frozen_of h0
  have hsl : ∀ w, (Instr.slice 28 (.slice a nx c) none (some (.int .i64 0)) none).run Tryd.prog w = .ok (.slice a 0 c) w := slice_upto (P := Tryd.prog) 28 5 Tryd.underlying28 sizeByte a nx c 0 (by omega) .i64
  have hrow : RowAt w (.slice a 0 c) (bytesV (x.take 0)) := by
    have h1 := RowAt.upto hx (k := 0) (by rw [bytesV_length]; omega)
    rw [show (bytesV x).take 0 = bytesV (x.take 0) from by simp [bytesV]] at h1
    exact h1
  have hlk : (bytesV (x.take 0)).length = 0 := by rw [bytesV_length, List.length_take]; omega
  have hlt : fb < w.drew.heap.size := (Array.getElem?_eq_some_iff.1 h0).1
  have Hlt := Lib.hid hlt
  have H0' : Hid (w.drew.heap[fb]? = some (.cells #[.int .i64 room, .slice ag na cg, .bool true, .int .i64 flushed] 52 (0, 0))) := h0
  have HR := Lib.hid hrow
  have HO := Lib.hid hown
  have Hlk := Lib.hid hlk
  have Hne := Lib.hid hne
  have Hna := Lib.hid hna
  have Hnx := Lib.hid hnx
  have hBw : B ≤ w.heap.size := by have : fb < w.heap.size := hlt; omega
  have hz' : (0 : Int) < nx := by omega
  clear h0 hown hne hna hx hnx hrow hlk hlt
  go_enter Tryd.func30, Tryd.ntmps30
  go_wp2_with fail
  go_region_law (refine step_append_row rfl _ _ 28 (by rfl) B 5 i0 (.int .u8 0) 1 1 Tryd.underlying28 hi hz0 hz1 hz2 rfl (by decide) _ na (bytesV all) (by rfl) HO.out a 0 c (bytesV (x.take 0)) (by rfl) HR.out.parts.2.2.1 (by first | (rw [Hlk.out]; omega) | rw [Hlk.out]) HR.out.parts.2.2.2 (bytesV_one _) (by unfold maxLen; omega) (by omega) (by simpa using hBw) ?_; intro a3 n3 w2 ho2 hg2 hb2; have H2 := Lib.hid ((hg2.block fb Hlt.out (fun e => Hne.out e.symm)).trans H0'.out); have q1 : w2.cell? ⟨fb, 1, none⟩ = some (.slice ag na cg) := cell_of (o := 1) H2.out rfl; have q2 : w2.frozen? ⟨fb, 1, none⟩ = false := frozen_of H2.out)
  clear q1 q2
  have k1 : Keep (flowSet fb (.slice ag na cg)) w w.drew := (Keep.refl _ w).drew
  have k2 : Keep (flowSet fb (.slice ag na cg)) w w2 := k1.grown hg2 (fun i hi => .inl (.inr hi))
  have k3 : Keep (flowSet fb (.slice ag na cg)) w (w2.setCell ⟨fb, 1, none⟩ (.slice a3 (na + 0) n3)) := k2.setCell (.inl (.inl rfl)) _
  have hne3 : (Value.slice a3 (na + 0) n3).ownBlock ≠ some fb := fun e => by
    rcases hb2 fb e with h | h
    · exact Hne.out h
    · have := Hlt.out
      omega
  have H3 : Hid ((w2.setCell ⟨fb, 1, none⟩ (.slice a3 (na + 0) n3)).heap[fb]? = some (.cells #[.int .i64 room, .slice a3 (na + 0) n3, .bool true, .int .i64 flushed] 52 (0, 0))) := (heap_set H2.out _).trans (by simp)
  have HO3 : Hid ((w2.setCell ⟨fb, 1, none⟩ (.slice a3 (na + 0) n3)).ownsRow B 5 1 (.slice a3 (na + 0) n3) (na + 0) (bytesV (all ++ x.take 0))) := by
    rw [bytesV_append]
    exact ownsRow_keep ho2 ((Keep.refl _ w2).set1 1 _) (fun i hi e => hne3 (e ▸ hi))
  have Hb3 : Hid (∀ k, (Value.slice a3 (na + 0) n3).ownBlock = some k → (Value.slice ag na cg).ownBlock = some k ∨ w.heap.size ≤ k) := fun i hi => by
    rcases hb2 i hi with h | h
    · exact .inl h
    · right; rw [h]; exact Nat.le_refl _
  have Hne3 := Lib.hid hne3
  have HK3 := Lib.hid k3
  have HLn : Hid ((all ++ x.take 0).length = na + 0) := by show _ = _; rw [List.length_append, Hna.out, ← bytesV_length, Hlk.out]
  have r0 : (w2.setCell ⟨fb, 1, none⟩ (.slice a3 (na + 0) n3)).cell? ⟨fb, 0, none⟩ = some (.int .i64 room) := cell_of H3.out rfl
  have r1 : (w2.setCell ⟨fb, 1, none⟩ (.slice a3 (na + 0) n3)).cell? ⟨fb, 1, none⟩ = some (.slice a3 (na + 0) n3) := cell_of H3.out rfl
  have r2 : (w2.setCell ⟨fb, 1, none⟩ (.slice a3 (na + 0) n3)).cell? ⟨fb, 2, none⟩ = some (.bool true) := cell_of H3.out rfl
  have g2 : (w2.setCell ⟨fb, 1, none⟩ (.slice a3 (na + 0) n3)).frozen? ⟨fb, 2, none⟩ = false := frozen_of H3.out
  generalize w2.setCell ⟨fb, 1, none⟩ (.slice a3 (na + 0) n3) = w3 at H3 HO3 HK3 r0 r1 r2 g2 ⊢
  clear hne3 k1 k2 k3 ho2 hg2 hb2 H2 HO HR H0' c0 c1 c2 f1 f2 hsl
  go_wp2
  go_region
  go_wp2
  first | go_ret2 | go_ret
  have hk4 : Keep (fun i => i = fb) w3 (w3.drew.setCell ⟨fb, 2, none⟩ (.bool true)) := ((Keep.refl _ w3).drew).set1 2 _
  exact ⟨by first | rfl | (show Ending.returned (.bool (decide ((room : Int) < (na : Int) + nx))) = _; rw [decide_eq_true (by omega)]), _, ⟨(heap_set (w := w3.drew) H3.out _).trans (by simp), by show World.ownsRow _ _ _ _ _ (all ++ _).length _; rw [HLn.out]; exact ownsRow_keep HO3.out hk4 (fun i hi e => Hne3.out (e ▸ hi)), Hne3.out, hB⟩, Hb3.out, HK3.out.trans hk4 (fun i _ e => .inl e)⟩


set_option maxRecDepth 100000 in
set_option maxHeartbeats 2000000 in
theorem taken_newz (w : World) (fb : Nat) (ag a : Option Addr) (cg na nx c room flushed B : Nat) (all x : List UInt8) (h0 : w.heap[fb]? = some (.cells #[.int .i64 room, .slice ag na cg, .bool false, .int .i64 flushed] 52 (0, 0)))
    (hown : w.ownsRow B 5 1 (.slice ag na cg) na (bytesV all)) (hne : (Value.slice ag na cg).ownBlock ≠ some fb) (hB : B ≤ fb) (hna : all.length = na) (hx : BytesAt w (.slice a nx c) x) (hnx : x.length = nx) (hl : na + nx ≤ 140737488355328) (hr : room ≤ 9223372036854775807) (hf : room < na + nx) :
    Calls Tryd.prog 30 #[.pointer (some ⟨fb, 0, none⟩), .slice a nx c, .int .i64 nx, .int .i64 9] w (FlowDone w fb (.slice ag na cg) ⟨room, all ++ x.take nx, true, flushed⟩ B) := by
  obtain ⟨i0, hi, hz0, hz1, hz2⟩ := info_parts infoByte
  have hcx : nx ≤ c := by have := (RowAt.parts hx).2.1; rw [bytesV_length] at this; omega
  have hnn : nx ≤ nx := by omega
  have c0 : w.cell? ⟨fb, 0, none⟩ = some (.int .i64 room) := cell_of h0 rfl
  have c1 : w.cell? ⟨fb, 1, none⟩ = some (.slice ag na cg) := cell_of h0 rfl
  have c2 : w.cell? ⟨fb, 2, none⟩ = some (.bool false) := cell_of h0 rfl
  have f1 : w.frozen? ⟨fb, 1, none⟩ = false := frozen_of h0
  have f2 : w.frozen? ⟨fb, 2, none⟩ = false := frozen_of h0
  have hsl : ∀ w, (Instr.slice 28 (.slice a nx c) none (some (.int .i64 nx)) none).run Tryd.prog w = .ok (.slice a nx c) w := slice_upto (P := Tryd.prog) 28 5 Tryd.underlying28 sizeByte a nx c nx (by omega) .i64
  have hrow : RowAt w (.slice a nx c) (bytesV (x.take nx)) := by
    have h1 := RowAt.upto hx (k := nx) (by rw [bytesV_length]; omega)
    rw [show (bytesV x).take nx = bytesV (x.take nx) from by simp [bytesV]] at h1
    exact h1
  have hlk : (bytesV (x.take nx)).length = nx := by rw [bytesV_length, List.length_take]; omega
  have hlt : fb < w.drew.heap.size := (Array.getElem?_eq_some_iff.1 h0).1
  have Hlt := Lib.hid hlt
  have H0' : Hid (w.drew.heap[fb]? = some (.cells #[.int .i64 room, .slice ag na cg, .bool false, .int .i64 flushed] 52 (0, 0))) := h0
  have HR := Lib.hid hrow
  have HO := Lib.hid hown
  have Hlk := Lib.hid hlk
  have Hne := Lib.hid hne
  have Hna := Lib.hid hna
  have Hnx := Lib.hid hnx
  have hBw : B ≤ w.heap.size := by have : fb < w.heap.size := hlt; omega
  have hgt : (room : Int) < ((na + nx : Nat) : Int) - nx + nx := by omega
  have hgt2 : (room : Int) < (na : Int) + nx - nx + nx := by omega
  clear h0 hown hne hna hx hnx hrow hlk hlt
  go_enter Tryd.func30, Tryd.ntmps30
  go_wp2_with fail
  go_region_law (refine step_append_row rfl _ _ 28 (by rfl) B 5 i0 (.int .u8 0) 1 1 Tryd.underlying28 hi hz0 hz1 hz2 rfl (by decide) _ na (bytesV all) (by rfl) HO.out a nx c (bytesV (x.take nx)) (by rfl) HR.out.parts.2.2.1 (by first | (rw [Hlk.out]; omega) | rw [Hlk.out]) HR.out.parts.2.2.2 (bytesV_one _) (by unfold maxLen; omega) (by omega) (by simpa using hBw) ?_; intro a3 n3 w2 ho2 hg2 hb2; have H2 := Lib.hid ((hg2.block fb Hlt.out (fun e => Hne.out e.symm)).trans H0'.out); have q1 : w2.cell? ⟨fb, 1, none⟩ = some (.slice ag na cg) := cell_of (o := 1) H2.out rfl; have q2 : w2.frozen? ⟨fb, 1, none⟩ = false := frozen_of H2.out)
  clear q1 q2
  have k1 : Keep (flowSet fb (.slice ag na cg)) w w.drew := (Keep.refl _ w).drew
  have k2 : Keep (flowSet fb (.slice ag na cg)) w w2 := k1.grown hg2 (fun i hi => .inl (.inr hi))
  have k3 : Keep (flowSet fb (.slice ag na cg)) w (w2.setCell ⟨fb, 1, none⟩ (.slice a3 (na + nx) n3)) := k2.setCell (.inl (.inl rfl)) _
  have hne3 : (Value.slice a3 (na + nx) n3).ownBlock ≠ some fb := fun e => by
    rcases hb2 fb e with h | h
    · exact Hne.out h
    · have := Hlt.out
      omega
  have H3 : Hid ((w2.setCell ⟨fb, 1, none⟩ (.slice a3 (na + nx) n3)).heap[fb]? = some (.cells #[.int .i64 room, .slice a3 (na + nx) n3, .bool false, .int .i64 flushed] 52 (0, 0))) := (heap_set H2.out _).trans (by simp)
  have HO3 : Hid ((w2.setCell ⟨fb, 1, none⟩ (.slice a3 (na + nx) n3)).ownsRow B 5 1 (.slice a3 (na + nx) n3) (na + nx) (bytesV (all ++ x.take nx))) := by
    rw [bytesV_append]
    exact ownsRow_keep ho2 ((Keep.refl _ w2).set1 1 _) (fun i hi e => hne3 (e ▸ hi))
  have Hb3 : Hid (∀ k, (Value.slice a3 (na + nx) n3).ownBlock = some k → (Value.slice ag na cg).ownBlock = some k ∨ w.heap.size ≤ k) := fun i hi => by
    rcases hb2 i hi with h | h
    · exact .inl h
    · right; rw [h]; exact Nat.le_refl _
  have Hne3 := Lib.hid hne3
  have HK3 := Lib.hid k3
  have HLn : Hid ((all ++ x.take nx).length = na + nx) := by show _ = _; rw [List.length_append, Hna.out, ← bytesV_length, Hlk.out]
  have r0 : (w2.setCell ⟨fb, 1, none⟩ (.slice a3 (na + nx) n3)).cell? ⟨fb, 0, none⟩ = some (.int .i64 room) := cell_of H3.out rfl
  have r1 : (w2.setCell ⟨fb, 1, none⟩ (.slice a3 (na + nx) n3)).cell? ⟨fb, 1, none⟩ = some (.slice a3 (na + nx) n3) := cell_of H3.out rfl
  have r2 : (w2.setCell ⟨fb, 1, none⟩ (.slice a3 (na + nx) n3)).cell? ⟨fb, 2, none⟩ = some (.bool false) := cell_of H3.out rfl
  have g2 : (w2.setCell ⟨fb, 1, none⟩ (.slice a3 (na + nx) n3)).frozen? ⟨fb, 2, none⟩ = false := frozen_of H3.out
  generalize w2.setCell ⟨fb, 1, none⟩ (.slice a3 (na + nx) n3) = w3 at H3 HO3 HK3 r0 r1 r2 g2 ⊢
  clear hne3 k1 k2 k3 ho2 hg2 hb2 H2 HO HR H0' c0 c1 c2 f1 f2 hsl
  go_wp2
  go_region
  go_wp2
  first | go_ret2 | go_ret
  have hk4 : Keep (fun i => i = fb) w3 (w3.drew.setCell ⟨fb, 2, none⟩ (.bool true)) := ((Keep.refl _ w3).drew).set1 2 _
  exact ⟨by first | rfl | (show Ending.returned (.bool (decide ((room : Int) < (na : Int) + nx))) = _; rw [decide_eq_true (by omega)]), _, ⟨(heap_set (w := w3.drew) H3.out _).trans (by simp), by show World.ownsRow _ _ _ _ _ (all ++ _).length _; rw [HLn.out]; exact ownsRow_keep HO3.out hk4 (fun i hi e => Hne3.out (e ▸ hi)), Hne3.out, hB⟩, Hb3.out, HK3.out.trans hk4 (fun i _ e => .inl e)⟩


set_option maxRecDepth 100000 in
set_option maxHeartbeats 2000000 in
theorem taken_new (w : World) (fb : Nat) (ag a : Option Addr) (cg na nx c room flushed B : Nat) (all x : List UInt8) (n : Nat) (h0 : w.heap[fb]? = some (.cells #[.int .i64 room, .slice ag na cg, .bool false, .int .i64 flushed] 52 (0, 0)))
    (hown : w.ownsRow B 5 1 (.slice ag na cg) na (bytesV all)) (hne : (Value.slice ag na cg).ownBlock ≠ some fb) (hB : B ≤ fb) (hna : all.length = na) (hx : BytesAt w (.slice a nx c) x) (hnx : x.length = nx) (hl : na + nx ≤ 140737488355328) (hr : room ≤ 9223372036854775807) (hn : n < nx) (hf : room < na + nx) :
    Calls Tryd.prog 30 #[.pointer (some ⟨fb, 0, none⟩), .slice a nx c, .int .i64 n, .int .i64 9] w (FlowDone w fb (.slice ag na cg) ⟨room, all ++ x.take n, true, flushed⟩ B) := by
  obtain ⟨i0, hi, hz0, hz1, hz2⟩ := info_parts infoByte
  have hcx : nx ≤ c := by have := (RowAt.parts hx).2.1; rw [bytesV_length] at this; omega
  have hnn : n ≤ nx := by omega
  have c0 : w.cell? ⟨fb, 0, none⟩ = some (.int .i64 room) := cell_of h0 rfl
  have c1 : w.cell? ⟨fb, 1, none⟩ = some (.slice ag na cg) := cell_of h0 rfl
  have c2 : w.cell? ⟨fb, 2, none⟩ = some (.bool false) := cell_of h0 rfl
  have f1 : w.frozen? ⟨fb, 1, none⟩ = false := frozen_of h0
  have f2 : w.frozen? ⟨fb, 2, none⟩ = false := frozen_of h0
  have hsl : ∀ w, (Instr.slice 28 (.slice a nx c) none (some (.int .i64 n)) none).run Tryd.prog w = .ok (.slice a n c) w := slice_upto (P := Tryd.prog) 28 5 Tryd.underlying28 sizeByte a nx c n (by omega) .i64
  have hrow : RowAt w (.slice a n c) (bytesV (x.take n)) := by
    have h1 := RowAt.upto hx (k := n) (by rw [bytesV_length]; omega)
    rw [show (bytesV x).take n = bytesV (x.take n) from by simp [bytesV]] at h1
    exact h1
  have hlk : (bytesV (x.take n)).length = n := by rw [bytesV_length, List.length_take]; omega
  have hlt : fb < w.drew.heap.size := (Array.getElem?_eq_some_iff.1 h0).1
  have Hlt := Lib.hid hlt
  have H0' : Hid (w.drew.heap[fb]? = some (.cells #[.int .i64 room, .slice ag na cg, .bool false, .int .i64 flushed] 52 (0, 0))) := h0
  have HR := Lib.hid hrow
  have HO := Lib.hid hown
  have Hlk := Lib.hid hlk
  have Hne := Lib.hid hne
  have Hna := Lib.hid hna
  have Hnx := Lib.hid hnx
  have hBw : B ≤ w.heap.size := by have : fb < w.heap.size := hlt; omega
  have hgt : (room : Int) < ((na + n : Nat) : Int) - n + nx := by omega
  have hgt2 : (room : Int) < (na : Int) + n - n + nx := by omega
  have hn1 : (n : Int) < nx := by omega
  have hn2 : ¬ (nx : Int) < n := by omega
  clear h0 hown hne hna hx hnx hrow hlk hlt
  go_enter Tryd.func30, Tryd.ntmps30
  go_wp2_with fail
  go_region_law (refine step_append_row rfl _ _ 28 (by rfl) B 5 i0 (.int .u8 0) 1 1 Tryd.underlying28 hi hz0 hz1 hz2 rfl (by decide) _ na (bytesV all) (by rfl) HO.out a n c (bytesV (x.take n)) (by rfl) HR.out.parts.2.2.1 (by first | (rw [Hlk.out]; omega) | rw [Hlk.out]) HR.out.parts.2.2.2 (bytesV_one _) (by unfold maxLen; omega) (by omega) (by simpa using hBw) ?_; intro a3 n3 w2 ho2 hg2 hb2; have H2 := Lib.hid ((hg2.block fb Hlt.out (fun e => Hne.out e.symm)).trans H0'.out); have q1 : w2.cell? ⟨fb, 1, none⟩ = some (.slice ag na cg) := cell_of (o := 1) H2.out rfl; have q2 : w2.frozen? ⟨fb, 1, none⟩ = false := frozen_of H2.out)
  clear q1 q2
  have k1 : Keep (flowSet fb (.slice ag na cg)) w w.drew := (Keep.refl _ w).drew
  have k2 : Keep (flowSet fb (.slice ag na cg)) w w2 := k1.grown hg2 (fun i hi => .inl (.inr hi))
  have k3 : Keep (flowSet fb (.slice ag na cg)) w (w2.setCell ⟨fb, 1, none⟩ (.slice a3 (na + n) n3)) := k2.setCell (.inl (.inl rfl)) _
  have hne3 : (Value.slice a3 (na + n) n3).ownBlock ≠ some fb := fun e => by
    rcases hb2 fb e with h | h
    · exact Hne.out h
    · have := Hlt.out
      omega
  have H3 : Hid ((w2.setCell ⟨fb, 1, none⟩ (.slice a3 (na + n) n3)).heap[fb]? = some (.cells #[.int .i64 room, .slice a3 (na + n) n3, .bool false, .int .i64 flushed] 52 (0, 0))) := (heap_set H2.out _).trans (by simp)
  have HO3 : Hid ((w2.setCell ⟨fb, 1, none⟩ (.slice a3 (na + n) n3)).ownsRow B 5 1 (.slice a3 (na + n) n3) (na + n) (bytesV (all ++ x.take n))) := by
    rw [bytesV_append]
    exact ownsRow_keep ho2 ((Keep.refl _ w2).set1 1 _) (fun i hi e => hne3 (e ▸ hi))
  have Hb3 : Hid (∀ k, (Value.slice a3 (na + n) n3).ownBlock = some k → (Value.slice ag na cg).ownBlock = some k ∨ w.heap.size ≤ k) := fun i hi => by
    rcases hb2 i hi with h | h
    · exact .inl h
    · right; rw [h]; exact Nat.le_refl _
  have Hne3 := Lib.hid hne3
  have HK3 := Lib.hid k3
  have HLn : Hid ((all ++ x.take n).length = na + n) := by show _ = _; rw [List.length_append, Hna.out, ← bytesV_length, Hlk.out]
  have r0 : (w2.setCell ⟨fb, 1, none⟩ (.slice a3 (na + n) n3)).cell? ⟨fb, 0, none⟩ = some (.int .i64 room) := cell_of H3.out rfl
  have r1 : (w2.setCell ⟨fb, 1, none⟩ (.slice a3 (na + n) n3)).cell? ⟨fb, 1, none⟩ = some (.slice a3 (na + n) n3) := cell_of H3.out rfl
  have r2 : (w2.setCell ⟨fb, 1, none⟩ (.slice a3 (na + n) n3)).cell? ⟨fb, 2, none⟩ = some (.bool false) := cell_of H3.out rfl
  have g2 : (w2.setCell ⟨fb, 1, none⟩ (.slice a3 (na + n) n3)).frozen? ⟨fb, 2, none⟩ = false := frozen_of H3.out
  generalize w2.setCell ⟨fb, 1, none⟩ (.slice a3 (na + n) n3) = w3 at H3 HO3 HK3 r0 r1 r2 g2 ⊢
  clear hne3 k1 k2 k3 ho2 hg2 hb2 H2 HO HR H0' c0 c1 c2 f1 f2 hsl
  go_wp2
  go_region
  go_wp2
  first | go_ret2 | go_ret
  have hk4 : Keep (fun i => i = fb) w3 (w3.drew.setCell ⟨fb, 2, none⟩ (.bool true)) := ((Keep.refl _ w3).drew).set1 2 _
  exact ⟨by first | rfl | (show Ending.returned (.bool (decide ((room : Int) < (na : Int) + nx))) = _; rw [decide_eq_true (by omega)]), _, ⟨(heap_set (w := w3.drew) H3.out _).trans (by simp), by show World.ownsRow _ _ _ _ _ (all ++ _).length _; rw [HLn.out]; exact ownsRow_keep HO3.out hk4 (fun i hi e => Hne3.out (e ▸ hi)), Hne3.out, hB⟩, Hb3.out, HK3.out.trans hk4 (fun i _ e => .inl e)⟩


/-- taken, where the documentation allows it. -/
theorem taken_ok (w : World) (fb : Nat) (v : Value) (f : Flow) (B : Nat) (vx : Value) (x : List UInt8) (n : Nat) (e : Bool) (h : FlowAt w fb v f B) (hx : BytesAt w vx x) (T : Tk f x n e) (hl : f.all.length + x.length ≤ 140737488355328) (hr : f.room ≤ 9223372036854775807) :
    Calls Tryd.prog 30 #[.pointer (some ⟨fb, 0, none⟩), vx, .int .i64 n, .int .i64 (errN e)] w (FlowDone w fb v (f.take x n e) B) := by
  obtain ⟨h0, hown, hne, hB⟩ := h
  obtain ⟨room, all, failed, flushed⟩ := f
  obtain ⟨t1, t2, t3, t4⟩ := T
  obtain ⟨ag, cg, rfl⟩ := ownsRow_slice hown
  obtain ⟨a, c, rfl, -⟩ := id hx
  rw [bytesV_length] at hx ⊢
  simp only at h0 hown hne t3 t4 hl hr
  unfold Flow.take
  cases e with
  | false =>
    obtain rfl : n = x.length := t2 rfl
    have hf : failed = false := by
      cases failed with
      | false => rfl
      | true => have := (t3 rfl).1; cases this
    subst hf
    exact taken_fine w fb ag a cg _ _ c room flushed B all x h0 hown hne hB rfl hx rfl hl hr
  | true =>
    cases failed with
    | true =>
      obtain rfl : n = 0 := (t3 rfl).2
      by_cases hz : x.length = 0
      · exact taken_oldz w fb ag a cg _ _ c room flushed B all x h0 hown hne hB rfl hx rfl hl hr hz
      · exact taken_old w fb ag a cg _ _ c room flushed B all x h0 hown hne hB rfl hx rfl hl hr (by omega)
    | false =>
      have hf : room < all.length + x.length := by
        rcases t4 rfl with h | h
        · cases h
        · exact h
      by_cases hz : n = x.length
      · subst hz
        exact taken_newz w fb ag a cg _ _ c room flushed B all x h0 hown hne hB rfl hx rfl hl hr hf
      · exact taken_new w fb ag a cg _ _ c room flushed B all x n h0 hown hne hB rfl hx rfl hl hr (by omega) hf

end Go.Proofs.YtegbfhfmbjdjiaaDoor
