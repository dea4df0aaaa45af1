/-
  The documentation's got and reset.
-/
import Derived.Test.YtegbfhfmbjdjiaaDoorFlow
namespace Go.Proofs.YtegbfhfmbjdjiaaDoor
open Go.RowKit

set_option maxRecDepth 100000 in
set_option maxHeartbeats 2000000 in
theorem got_ok (w : World) (fb : Nat) (v : Value) (f : Flow) (B : Nat) (vx : Value) (x : List UInt8) (size : Nat) (h : FlowAt w fb v f B) (hx : BytesAt w vx x) (G : GotOk f size x) (hs : size ≤ 32767) (hl : f.all.length ≤ 140737488355328) (hr : f.room ≤ 9223372036854775807) :
    Calls Tryd.prog 18 #[.pointer (some ⟨fb, 0, none⟩), .int .i64 size, vx] w fun e w' => e = .returned (.bool true) ∧ New w w' := by
  obtain ⟨h0, hown, hne, hB⟩ := h
  obtain ⟨room, all, failed, flushed⟩ := f
  obtain ⟨g1, g2, g3, g4⟩ := G
  obtain ⟨ag, cg, rfl⟩ := ownsRow_slice hown
  obtain ⟨a, c, rfl, -⟩ := id hx
  rw [bytesV_length] at hx ⊢
  simp only at h0 hown hne g1 g2 g3 g4 hl hr
  have hrow : BytesAt w (.slice ag all.length cg) all := ownsRow_rowAt hown
  generalize hnx : x.length = nx at hx g1 g2 g3 g4 ⊢
  generalize hna : all.length = na at h0 hrow g3 g4 hl
  have c0 : w.cell? ⟨fb, 0, none⟩ = some (.int .i64 room) := cell_of h0 rfl
  have c1 : w.cell? ⟨fb, 1, none⟩ = some (.slice ag na cg) := cell_of h0 rfl
  have c2 : w.cell? ⟨fb, 2, none⟩ = some (.bool failed) := cell_of h0 rfl
  have c3 : w.cell? ⟨fb, 3, none⟩ = some (.int .i64 flushed) := cell_of h0 rfl
  have HX := Lib.hid hx
  have HR := Lib.hid hrow
  have Hnx := Lib.hid hnx
  have Hna := Lib.hid hna
  have e1 : ¬ (room : Int) < nx := by omega
  have e2 : ¬ (nx : Int) < flushed := by omega
  have hcg : na ≤ cg := by have := (RowAt.parts hrow).2.1; rw [bytesV_length] at this; omega
  have hfb : flushed ≤ 9223372036854775807 := by omega
  clear h0 hown hne
  cases failed with
  | true =>
    obtain ⟨k1, k2⟩ := g3 rfl
    subst k1
    clear g1 g2 g3 g4
    have hcase : (na : Int) < nx ∨ (nx : Int) ≤ na := by omega
    have Hk2 := Lib.hid k2
    have Hcase := Lib.hid hcase
    have ee : ((nx : Int) == (nx : Int)) = true := by simp
    have z1 : (0 : Int) ≤ na := by omega
    have z2 : (0 : Int) ≤ nx := by omega
    have z3 : (na : Int) ≤ cg := by omega
    clear hx hrow hnx hna k2 hcase
    rcases Hcase.out with q | q
    · have hsl := slice_upto (P := Tryd.prog) 28 5 Tryd.underlying28 sizeByte ag na cg na hcg .i64
      have z4 : ¬ (nx : Int) ≤ na := by omega
      have z5 : (na : Int) ≤ nx := by omega
      have z7 : ¬ nx < na := by omega
      have Hy : Hid (all = x.take na) := by
        have h8 := Hk2.out na (by omega)
        rw [← Hna.out, List.take_length] at h8
        show _ = _
        rw [h8, Hna.out]
      have HXd : Hid (BytesAt w.drew (.slice a nx c) x) := HX.out
      have HRd : Hid (BytesAt w.drew (.slice ag na cg) all) := HR.out
      have HS := Lib.hid (fun (w' : World) (h : New w.drew w') => (show w'.cell? ⟨fb, 0, none⟩ = some (.int .i64 nx) ∧ w'.cell? ⟨fb, 1, none⟩ = some (.slice ag na cg) from ⟨New.cellAt h c0, New.cellAt h c1⟩))
      go_enter Tryd.func18, Tryd.ntmps18
      go_wp2_with fail
      go_region_held3 (fun w' => w'.cell? ⟨fb, 0, none⟩ = some (.int .i64 nx) ∧ w'.cell? ⟨fb, 1, none⟩ = some (.slice ag na cg))
        (first | exact ⟨c0, c1⟩ | exact HS.out _ hn1)
        (first | (go_at_call 32; refine (starts_true _ _ _ _ _ nx na x all HXd.out HRd.out Hnx.out Hna.out (by omega) Hy.out (by omega)).mono ?_; rintro e w1 ⟨rfl, hn1⟩))
      rename_i hh
      have HN : Hid (New w w1) := ((Keep.refl _ w).drew).then hn1
      clear hh HS hn1
      go_wp2
      go_ret
      exact ⟨rfl, HN.out⟩
    · have hsl := slice_upto (P := Tryd.prog) 28 5 Tryd.underlying28 sizeByte ag na cg nx (by omega) .i64
      have Hy : Hid (all.take nx = x.take nx) := Hk2.out nx (by omega)
      have z4 : (nx : Int) ≤ cg := by omega
      have Hyl : Hid ((all.take nx).length = nx) := by show _ = _; simp; have := Hna.out; omega
      have HXd : Hid (BytesAt w.drew (.slice a nx c) x) := HX.out
      have HRd : Hid (BytesAt w.drew (.slice ag nx cg) (all.take nx)) := by
        have h1 := RowAt.upto HR.out (k := nx) (by rw [bytesV_length]; have := Hna.out; omega)
        rw [show (bytesV all).take nx = bytesV (all.take nx) from by simp [bytesV]] at h1
        exact h1
      have HS := Lib.hid (fun (w' : World) (h : New w.drew w') => (show w'.cell? ⟨fb, 0, none⟩ = some (.int .i64 nx) ∧ w'.cell? ⟨fb, 1, none⟩ = some (.slice ag na cg) from ⟨New.cellAt h c0, New.cellAt h c1⟩))
      by_cases q3 : nx = na
      · subst q3
        clear q
        go_enter Tryd.func18, Tryd.ntmps18
        go_wp2_with fail
        go_region_held3 (fun w' => w'.cell? ⟨fb, 0, none⟩ = some (.int .i64 nx) ∧ w'.cell? ⟨fb, 1, none⟩ = some (.slice ag nx cg))
          (first | exact ⟨c0, c1⟩ | exact HS.out _ hn1)
          (first | (go_at_call 32; refine (starts_true _ _ _ _ _ nx nx x (all.take nx) HXd.out HRd.out Hnx.out Hyl.out (by omega) Hy.out (by omega)).mono ?_; rintro e w1 ⟨rfl, hn1⟩))
        rename_i hh
        have HN : Hid (New w w1) := ((Keep.refl _ w).drew).then hn1
        clear hh HS hn1
        go_wp2
        go_ret
        exact ⟨rfl, HN.out⟩
      · have q4 : (nx : Int) < na := by omega
        have q5 : ¬ (na : Int) < nx := by omega
        have q6 : ¬ (na : Int) ≤ nx := by omega
        clear q q3
        go_enter Tryd.func18, Tryd.ntmps18
        go_wp2_with fail
        go_region_held3 (fun w' => w'.cell? ⟨fb, 0, none⟩ = some (.int .i64 nx) ∧ w'.cell? ⟨fb, 1, none⟩ = some (.slice ag na cg))
          (first | exact ⟨c0, c1⟩ | exact HS.out _ hn1)
          (first | (go_at_call 32; refine (starts_true _ _ _ _ _ nx nx x (all.take nx) HXd.out HRd.out Hnx.out Hyl.out (by omega) Hy.out (by omega)).mono ?_; rintro e w1 ⟨rfl, hn1⟩))
        rename_i hh
        have HN : Hid (New w w1) := ((Keep.refl _ w).drew).then hn1
        clear hh HS hn1
        go_wp2
        go_ret
        exact ⟨rfl, HN.out⟩
  | false =>
    obtain ⟨k1, k2, k3⟩ := g4 rfl
    have Hk1 := Lib.hid k1
    have hsz : (na : Int) - nx ≤ size := by omega
    clear g1 g2 g3 g4 hx hrow hnx hna k1
    go_enter Tryd.func18, Tryd.ntmps18
    go_wp2_with fail
    refine (starts_true _ _ _ _ _ na nx all x HR.out HX.out Hna.out Hnx.out k2 Hk1.out (by omega)).mono ?_
    rintro e w1 ⟨rfl, hn1⟩
    have d1 := New.cellAt hn1 c1
    have HN := Lib.hid hn1
    clear hn1
    go_wp2
    go_ret
    exact ⟨rfl, HN.out⟩

theorem reset_ok (w : World) (fb : Nat) (v : Value) (f : Flow) (B : Nat) (vx : Value) (x : List UInt8) (size : Nat) (h : FlowAt w fb v f B) (hx : BytesAt w vx x) (G : GotOk f size x) (hs : size ≤ 32767) (hl : f.all.length ≤ 140737488355328) (hr : f.room ≤ 9223372036854775807) :
    Calls Tryd.prog 16 #[.pointer (some ⟨fb, 0, none⟩), .int .i64 size, vx] w fun e w' => e = .returned (.bool true) ∧ New w w' := by
  have HF := Lib.hid h
  have HX := Lib.hid hx
  have HG := Lib.hid G
  clear h hx G
  go_enter Tryd.func16, Tryd.ntmps16
  go_wp2_with fail
  refine (got_ok w fb v f B vx x size HF.out HX.out HG.out hs hl hr).mono ?_
  rintro e w1 ⟨rfl, hn1⟩
  have HN := Lib.hid hn1
  clear hn1
  go_wp2
  go_ret
  exact ⟨rfl, HN.out⟩
end Go.Proofs.YtegbfhfmbjdjiaaDoor
