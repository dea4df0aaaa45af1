/-
  The walk of start.
-/
import Derived.Test.YtfigpbcmnlkdjaaDoorSrc
namespace Go.Proofs.YtfigpbcmnlkdjaaDoor
open Go.RowKit

theorem IntsAt.cells {w : World} {a : Option Addr} {n c : Nat} {l : List Int} (h : IntsAt w (.slice a n c) l) : ∀ ad, a = some ad → CellsAt w ad (intsV l) := by
  obtain ⟨a', c', e, _, _, _, h4⟩ := h
  simp only [Value.slice.injEq] at e
  obtain ⟨rfl, rfl, rfl⟩ := e
  exact h4

set_option maxHeartbeats 1000000 in
theorem start_any (dv cv : Value) (E : Int) (wth : Bool) (data : List UInt8) (cuts : List Int) (w : World) (hdv : BytesAt w dv data) (hcv : IntsAt w cv cuts)
    (hd : data.length ≤ 140737488355328) (hc : cuts.length * 8 ≤ 140737488355328) :
    Calls Tryd.prog 18 #[.agg #[dv, cv, .int .i64 E, .bool wth]] w fun e w' =>
      ∃ b, e = .returned (.pointer (some ⟨b, 0, none⟩)) ∧ w.heap.size ≤ b ∧ SrcAt w' b (Src.start data cuts (decide (E = 0)) wth) (fun i => i = b ∨ i < w.heap.size) ∧ New w w' := by
  obtain ⟨i0, hi, hz0, hz1, hz2⟩ := info_parts infoInt
  obtain ⟨a2, n2, e0, e1, e2, e3, e4⟩ := id hcv
  have Hlen := Lib.hid (intsV_length cuts)
  rw [intsV_length] at e0 e1
  subst e0
  have hk0 : New w (w.alloc (Obj.cells #[dv, .slice a2 cuts.length n2, Value.int IntKind.i64 E, Value.bool wth] 30)) := (Keep.refl _ _).alloc _
  have q0 : (w.alloc (Obj.cells #[dv, .slice a2 cuts.length n2, Value.int IntKind.i64 E, Value.bool wth] 30)).cell? ⟨w.heap.size, 0, none⟩ = some dv := cell_new _ _ _ _
  have q1 : (w.alloc (Obj.cells #[dv, .slice a2 cuts.length n2, Value.int IntKind.i64 E, Value.bool wth] 30)).cell? ⟨w.heap.size, 1, none⟩ = some (.slice a2 cuts.length n2) := cell_new _ _ _ _
  have q2 : (w.alloc (Obj.cells #[dv, .slice a2 cuts.length n2, Value.int IntKind.i64 E, Value.bool wth] 30)).cell? ⟨w.heap.size, 2, none⟩ = some (.int .i64 E) := cell_new _ _ _ _
  have q3 : (w.alloc (Obj.cells #[dv, .slice a2 cuts.length n2, Value.int IntKind.i64 E, Value.bool wth] 30)).cell? ⟨w.heap.size, 3, none⟩ = some (.bool wth) := cell_new _ _ _ _
  have Hq0 := Lib.hid q0
  have Hq1 := Lib.hid q1
  have Hq2 := Lib.hid q2
  have Hq3 := Lib.hid q3
  clear q0 q1 q2 q3
  have HK := Lib.hid (fun (w' : World) (h : New (w.alloc (Obj.cells #[dv, .slice a2 cuts.length n2, Value.int IntKind.i64 E, Value.bool wth] 30)) w') =>
    (show w'.cell? ⟨w.heap.size, 0, none⟩ = some dv ∧ w'.cell? ⟨w.heap.size, 1, none⟩ = some (.slice a2 cuts.length n2) ∧ w'.cell? ⟨w.heap.size, 2, none⟩ = some (.int .i64 E) ∧ w'.cell? ⟨w.heap.size, 3, none⟩ = some (.bool wth) from
      ⟨New.cellAt h Hq0.out, New.cellAt h Hq1.out, New.cellAt h Hq2.out, New.cellAt h Hq3.out⟩))
  have HN := Lib.hid (fun h : a2 = none => (show cuts.length = 0 ∧ n2 = 0 from ⟨by have := e3 h; omega, e3 h⟩))
  clear e3 e4
  go_enter Tryd.func18, Tryd.ntmps18
  go_wp2_with fail
  go_region_held3 (fun w' => w'.cell? ⟨w.heap.size, 0, none⟩ = some dv ∧ w'.cell? ⟨w.heap.size, 1, none⟩ = some (.slice a2 cuts.length n2) ∧ w'.cell? ⟨w.heap.size, 2, none⟩ = some (.int .i64 E) ∧ w'.cell? ⟨w.heap.size, 3, none⟩ = some (.bool wth))
    ((refine HK.out _ ?_; repeat (first | exact Keep.refl _ _ | apply Keep.drew | apply Keep.alloc | refine Keep.then ?_ (New.of_grown hg2) | refine Keep.then ?_ hn1)))
    (first
      | (refine step_append_row rfl _ _ 24 (by rfl) w.heap.size 3 i0 (.int .i64 0) 1 8 Tryd.underlying24 hi hz0 hz1 hz2 rfl (by decide) _ 0 [] (by rfl) (World.ownsRow_nil _ _ _ _) a2 cuts.length n2 (intsV cuts) (by rfl) HN.out (by rw [Hlen.out]; omega) (IntsAt.cells (hcv.new (hk0.drew.then hn1))) (intsV_one _) (by unfold maxLen; omega) (by omega) (by have := (hk0.drew.then hn1).size; omega) ?_; intro a3 n3 w2 ho2 hg2 hb2)
      | (go_at_call 21; refine (copied_any _ data _ (hdv.new hk0.drew) hd).mono ?_; rintro e w1 ⟨a1, n1, rfl, ho1, hn1⟩))
  rename_i hh
  clear hh HK Hq0 Hq1 Hq2 Hq3
  have k1 : New w w1 := hk0.drew.then hn1
  have k2 : New w1 w2 := New.of_grown hg2
  have r1 : BytesAt w2 (.slice a1 data.length n1) data := RowAt.new (ownsRow_rowAt ho1) k2
  have r2 : IntsAt w2 (.slice a3 cuts.length n3) cuts := by
    have := ownsRow_rowAt ho2
    show RowAt _ _ _
    simpa using this
  have k3 : New w2 (w2.alloc (Obj.cells #[.slice a1 data.length n1, .slice a3 cuts.length n3, .int .i64 E, .bool wth, .int .i64 0, .int .i64 0, .int .i64 0] 77)) := (Keep.refl _ _).alloc _
  have b1 : ∀ i, Value.inBlock (.slice a1 data.length n1) i → w.heap.size ≤ i := fun i hi => by
    have := (ho1.lt i (inBlock_own hi)).1
    simp at this; omega
  have b2 : ∀ i, Value.inBlock (.slice a3 cuts.length n3) i → w.heap.size ≤ i := fun i hi => by
    have hi' := inBlock_own hi
    exact (ho2.lt i (by simpa using hi')).1
  have hs : SrcAt (w2.alloc (Obj.cells #[.slice a1 data.length n1, .slice a3 cuts.length n3, .int .i64 E, .bool wth, .int .i64 0, .int .i64 0, .int .i64 0] 77)) w2.heap.size ⟨data, cuts, decide (E = 0), wth, 0, 0, 0⟩ (fun i => i = w2.heap.size ∨ i < w.heap.size) :=
    ⟨_, _, E, heap_alloc_new _ _, rfl, r1.new k3, r2.new k3, fun i hi hN => by have := RowAt.lt r1 i hi; have := b1 i hi; omega, fun i hi hN => by have := RowAt.lt r2 i hi; have := b2 i hi; omega⟩
  have HW : Hid (New w w2) := k1.then k2
  have HK3 : Hid (New w2 _) := k3
  have HS := Lib.hid hs
  clear hs b1 b2 r1 r2 k3 k2 k1 ho1 ho2 hg2 hn1 hk0 hb2
  go_wp2_with fail
  refine (next_any _ _ _ _ (.inl rfl) HS.out (Nat.zero_le _) (Nat.le_refl _) hd (by show cuts.length ≤ _; omega)).mono ?_
  rintro e w4 ⟨rfl, hs4, hk4⟩
  go_wp2
  go_ret
  have hsz := HW.out.size
  refine ⟨_, rfl, hsz, hs4, ?_⟩
  refine (HW.out.then HK3.out).trans hk4 (fun i hi e => ?_)
  subst e
  omega
end Go.Proofs.YtfigpbcmnlkdjaaDoor
