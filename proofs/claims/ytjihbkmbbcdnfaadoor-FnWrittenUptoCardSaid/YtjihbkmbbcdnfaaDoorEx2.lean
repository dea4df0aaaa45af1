/-
  The exact law's own helpers over bytes: eqByteS, markByteS, heldByteS, toByteS.
-/
import Derived.Test.YtjihbkmbbcdnfaaDoorEx1
import Derived.Laws.OwnMore
namespace Go.Proofs.YtjihbkmbbcdnfaaDoor
open Go.RowKit

set_option maxRecDepth 100000 in
set_option maxHeartbeats 1000000 in
theorem eqByteS_len (w : World) (a1 a2 : Option Addr) (c1 c2 : Nat) (x y : List UInt8) (h1 : BytesAt w (.slice a1 x.length c1) x) (h2 : BytesAt w (.slice a2 y.length c2) y) (hl : x.length = y.length) (hx : x.length ≤ 9223372036854775807) (r : Bool) (hr : r = decide (x = y)) :
    Calls Tryd.prog 17 #[.slice a1 x.length c1, .slice a2 y.length c2] w fun e w' => e = .returned (.bool r) ∧ New w w' := by
  have H0 : Hid (EInv w x y x.length (.int .i64 0) w) := ⟨0, Nat.zero_le _, rfl, by simp, Keep.refl _ _, rfl⟩
  have H1 := Lib.hid h1
  have H2 := Lib.hid h2
  have Hr := Lib.hid hr
  have Hl := Lib.hid hl
  have hne : ((x.length : Int) != y.length) = false := by simp; omega
  clear h1 h2 hr
  rw [← hl] at hne ⊢
  clear hl
  go_enter Tryd.func17, Tryd.ntmps17
  go_wp2_with fail
  go_loopg [5] x.length (fun g i wr => EInv w x y g i wr)
  case atStart => exact H0.out
  case round =>
    obtain ⟨k, hk, rfl, htk, hnw, rfl⟩ := hrel
    have Htk := Lib.hid htk
    clear htk
    by_cases hlt : k < x.length
    · have hly : k < y.length := by rw [← Hl.out]; exact hlt
      obtain ⟨b1, o1, rfl, hc1⟩ := bytes_one (H1.out.new hnw) hlt
      obtain ⟨b2, o2, rfl, hc2⟩ := bytes_one (H2.out.new hnw) hly
      have q1 := hc1 k hlt
      have q2 := hc2 k hly
      obtain ⟨u, hu⟩ : ∃ u : UInt8, u = x[k] := ⟨_, rfl⟩
      obtain ⟨v, hv⟩ : ∃ v : UInt8, v = y[k] := ⟨_, rfl⟩
      rw [← hu] at q1
      rw [← hv] at q2
      have Hu := Lib.hid hu
      have Hv := Lib.hid hv
      have Hnw := Lib.hid hnw
      have b1' := u.toNat_lt
      have b2' := v.toNat_lt
      have hlt' : (k : Int) < x.length := by omega
      clear hc1 hc2 hu hv hnw
      by_cases huv : u = v
      · subst huv
        have hb : ((u.toNat : Int) != u.toNat) = false := by simp
        go_wp2_with fail
        go_quiet (fail)
        go_wp2
        go_roundg (x.length - (k + 1))
        case measure => omega
        case rel =>
          refine ⟨k + 1, hlt, rfl, ?_, Hnw.out.drewN _, rfl⟩
          rw [List.take_add_one, List.take_add_one, Htk.out, List.getElem?_eq_getElem hlt, List.getElem?_eq_getElem hly, ← Hu.out, ← Hv.out]
      · have hb : ((u.toNat : Int) != v.toNat) = true := by
          simp only [bne_iff_ne, ne_eq]
          intro e
          exact huv (UInt8.toNat_inj.1 (by omega))
        have Hb := Lib.hid huv
        clear huv
        go_wp2_with fail
        go_quiet (fail)
        go_wp2
        go_ret
        refine ⟨?_, Hnw.out.drewN _⟩
        have : decide (x = y) = false := by
          apply decide_eq_false
          intro e
          subst e
          exact Hb.out (by rw [Hu.out, Hv.out])
        rw [Hr.out, this]; rfl
    · have hlt' : ¬ ((k : Int) < x.length) := by omega
      go_wp2
      go_ret
      refine ⟨?_, hnw⟩
      have hk' : k = x.length := by omega
      have e : x = y := by
        have := Htk.out
        rw [hk', List.take_length, Hl.out, List.take_length] at this
        exact this
      rw [Hr.out, decide_eq_true e]; rfl

/-- eqByteS, whatever bytes. -/
theorem eqByteS_any (w : World) (a1 a2 : Option Addr) (c1 c2 : Nat) (x y : List UInt8) (h1 : BytesAt w (.slice a1 x.length c1) x) (h2 : BytesAt w (.slice a2 y.length c2) y) (hx : x.length ≤ 9223372036854775807) (r : Bool) (hr : r = decide (x = y)) :
    Calls Tryd.prog 17 #[.slice a1 x.length c1, .slice a2 y.length c2] w fun e w' => e = .returned (.bool r) ∧ New w w' := by
  by_cases hl : x.length = y.length
  · exact eqByteS_len w a1 a2 c1 c2 x y h1 h2 hl hx r hr
  · have hne : ((x.length : Int) != y.length) = true := by simp; omega
    have hr' : r = false := by rw [hr]; exact decide_eq_false (fun e => hl (by rw [e]))
    subst hr'
    clear hr h1 h2
    go_enter Tryd.func17, Tryd.ntmps17
    go_wp2
    go_ret
    exact ⟨rfl, Keep.refl _ _⟩

theorem eqByteS_gen (w : World) (v1 v2 : Value) (x y : List UInt8) (h1 : BytesAt w v1 x) (h2 : BytesAt w v2 y) (hx : x.length ≤ 9223372036854775807) (r : Bool) (hr : r = decide (x = y)) :
    Calls Tryd.prog 17 #[v1, v2] w fun e w' => e = .returned (.bool r) ∧ New w w' := by
  obtain ⟨a1, c1, rfl, _⟩ := id h1
  obtain ⟨a2, c2, rfl, _⟩ := id h2
  rw [bytesV_length] at h1 ⊢
  rw [bytesV_length] at h2 ⊢
  exact eqByteS_any w a1 a2 c1 c2 x y h1 h2 hx r hr

/-- The bytes that markByteS writes from a number on. -/
def marks (k n : Nat) : List UInt8 := (List.range n).map fun j => UInt8.ofNat (k + j)
theorem marks_length (k n : Nat) : (marks k n).length = n := by simp [marks]
theorem marks_get (k n j : Nat) (hj : j < n) : (marks k n)[j]'(by rw [marks_length]; exact hj) = UInt8.ofNat (k + j) := by simp [marks]

def HInv (w : World) (k n : Nat) (g : Nat) (x i : Value) (wr : World) : Prop :=
  ∃ j : Nat, j ≤ n ∧ i = .int .i64 j ∧ x = .int .i64 ((k + j : Nat) : Int) ∧ New w wr ∧ g = n - j

set_option maxRecDepth 100000 in
set_option maxHeartbeats 1000000 in
theorem heldByteS_any (w : World) (a : Option Addr) (n c k : Nat) (h : BytesAt w (.slice a n c) (marks k n)) (hk : k + n ≤ 4611686018427387904) :
    Calls Tryd.prog 21 #[.slice a n c, .int .i64 k] w fun e w' => e = .returned (.int .i64 ((k + n : Nat) : Int)) ∧ New w w' := by
  have H := Lib.hid h
  have H0 : Hid (HInv w k n n (.int .i64 k) (.int .i64 0) w) := ⟨0, Nat.zero_le _, rfl, rfl, Keep.refl _ _, rfl⟩
  clear h
  go_enter Tryd.func21, Tryd.ntmps21
  go_wp2_with fail
  go_loopg [1, 5] n (fun g x i wr => HInv w k n g x i wr)
  case atStart => exact H0.out
  case round =>
    obtain ⟨j, hj, rfl, rfl, hnw, rfl⟩ := hrel
    by_cases hlt : j < n
    · obtain ⟨b, o, rfl, hc⟩ := bytes_one (H.out.new hnw) (i := j) (by rw [marks_length]; exact hlt)
      have q := hc j (by rw [marks_length]; exact hlt)
      rw [marks_get k n j hlt] at q
      have e1 : ((UInt8.ofNat (k + j)).toNat : Int) = ((k + j : Nat) : Int) % 256 := by simp
      rw [e1] at q
      have Hnw := Lib.hid hnw
      have hlt' : (j : Int) < n := by omega
      clear hc hnw e1
      go_wp2
      go_roundg (n - (j + 1))
      case measure => omega
      case rel => exact ⟨j + 1, hlt, rfl, congrArg (Value.int .i64) (by omega), Hnw.out, rfl⟩
    · obtain rfl : j = n := by omega
      have hnl : ¬ ((j : Int) < j) := by omega
      go_wp2
      go_ret
      exact ⟨rfl, hnw⟩

def MInv (w : World) (base : Nat) (a : Option Addr) (n c k : Nat) (xs : List UInt8) (g : Nat) (x i : Value) (wr : World) : Prop :=
  ∃ j : Nat, j ≤ n ∧ i = .int .i64 j ∧ x = .int .i64 ((k + j : Nat) : Int) ∧ wr.ownsRow base 5 1 (.slice a n c) n (bytesV (marks k j ++ xs.drop j)) ∧ Keep (fun b => (Value.slice a n c).ownBlock = some b) w wr ∧ g = n - j

theorem marks_succ (k j : Nat) : marks k (j + 1) = marks k j ++ [UInt8.ofNat (k + j)] := by simp [marks, List.range_succ]

theorem marks_step (k j : Nat) (xs : List UInt8) (hj : j < xs.length) : (bytesV (marks k j ++ xs.drop j)).set j (.int .u8 (((k + j : Nat) : Int) % 256)) = bytesV (marks k (j + 1) ++ xs.drop (j + 1)) := by
  have e : (Value.int .u8 (((k + j : Nat) : Int) % 256)) = byteV (UInt8.ofNat (k + j)) := by simp [byteV]
  rw [e, marks_succ, List.drop_eq_getElem_cons hj]
  simp only [bytesV_append, List.append_assoc]
  rw [List.set_append_right _ _ (by rw [bytesV_length, marks_length]; exact Nat.le_refl _), bytesV_length, marks_length, Nat.sub_self]
  rfl

set_option maxRecDepth 100000 in
set_option maxHeartbeats 1000000 in
theorem markByteS_any (w : World) (base : Nat) (a : Option Addr) (n c k : Nat) (xs : List UInt8) (hx : xs.length = n) (h : w.ownsRow base 5 1 (.slice a n c) n (bytesV xs)) (hk : k + n ≤ 4611686018427387904) :
    Calls Tryd.prog 20 #[.slice a n c, .int .i64 k] w fun e w' => e = .returned (.int .i64 ((k + n : Nat) : Int)) ∧ w'.ownsRow base 5 1 (.slice a n c) n (bytesV (marks k n)) ∧ Keep (fun b => (Value.slice a n c).ownBlock = some b) w w' := by
  have H0 : Hid (MInv w base a n c k xs n (.int .i64 k) (.int .i64 0) w) := ⟨0, Nat.zero_le _, rfl, rfl, by simpa [marks] using h, Keep.refl _ _, rfl⟩
  have Hx := Lib.hid hx
  clear h hx
  go_enter Tryd.func20, Tryd.ntmps20
  go_wp2_with fail
  go_loopg [1, 5] n (fun g x i wr => MInv w base a n c k xs g x i wr)
  case atStart => exact H0.out
  case round =>
    obtain ⟨j, hj, rfl, rfl, hown, hnw, rfl⟩ := hrel
    by_cases hlt : j < n
    · obtain ⟨b, c', e, hbb⟩ := hown.form (by omega)
      simp only [Value.slice.injEq] at e
      obtain ⟨rfl, hee, rfl⟩ := e
      have hcell := hown.cellAt j (by omega)
      have hfz := hown.frozenAt j
      obtain ⟨old, hold⟩ : ∃ u, wr.cell? ⟨b, j, none⟩ = some u := by
        rw [hcell]
        exact ⟨_, List.getElem?_eq_getElem (by rw [bytesV_length]; simp [marks_length, Hx.out]; omega)⟩
      have hst := hown.stored j (.int .u8 (((k + j : Nat) : Int) % 256))
      rw [marks_step k j xs (by rw [Hx.out]; exact hlt)] at hst
      have H2 : Hid (MInv w base (some ⟨b, 0, none⟩) n c k xs (n - (j + 1)) (.int .i64 ((k + (j + 1) : Nat) : Int)) (.int .i64 ((j + 1 : Nat) : Int)) (wr.setCell ⟨b, j, none⟩ (.int .u8 (((k + j : Nat) : Int) % 256)))) :=
        ⟨j + 1, hlt, rfl, rfl, hst.1, hnw.setCell (p := ⟨b, j, none⟩) (.inl rfl) _, rfl⟩
      have hlt' : (j : Int) < n := by omega
      rw [show (((k + j : Nat) : Int) % 256) = ((k : Int) + j) % 256 by omega, show (((k + (j + 1) : Nat) : Int)) = (k : Int) + j + 1 by omega, show (((j + 1 : Nat) : Int)) = (j : Int) + 1 by omega] at H2
      clear hown hnw hcell hst hee hbb
      go_wp2
      go_roundg (n - (j + 1))
      case measure => omega
      case rel => exact H2.out
    · obtain rfl : j = n := by omega
      have hnl : ¬ ((j : Int) < j) := by omega
      rw [List.drop_eq_nil_of_le (by rw [Hx.out]; exact Nat.le_refl _), List.append_nil] at hown
      have Hown := Lib.hid hown
      clear hown
      go_wp2
      go_ret
      exact ⟨rfl, Hown.out, hnw⟩
end Go.Proofs.YtjihbkmbbcdnfaaDoor
