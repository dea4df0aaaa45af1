/-
  The walk of the laws' own equal.
-/
import Derived.Test.YtfigpbcmnlkdjaaDoorCopied
namespace Go.Proofs.YtfigpbcmnlkdjaaDoor
open Go.RowKit

theorem bytes_one {w : World} {a : Option Addr} {n c : Nat} {l : List UInt8} (h : BytesAt w (.slice a n c) l) {i : Nat} (hi : i < l.length) :
    ∃ b o, a = some ⟨b, o, none⟩ ∧ ∀ (j : Nat) (hj : j < l.length), w.cell? ⟨b, o + j, none⟩ = some (.int .u8 (l[j].toNat : Int)) := by
  obtain ⟨b, o, h1, h2⟩ := RowAt.one h (i := i) (by rw [bytesV_length]; exact hi)
  refine ⟨b, o, h1, fun j hj => ?_⟩
  rw [h2 j (by rw [bytesV_length]; exact hj)]
  simp [bytesV, byteV]

def EInv (w : World) (x y : List UInt8) (g : Nat) (i : Value) (wr : World) : Prop :=
  ∃ k : Nat, k ≤ x.length ∧ i = .int .i64 k ∧ x.take k = y.take k ∧ New w wr ∧ g = x.length - k

set_option maxRecDepth 100000 in
set_option maxHeartbeats 1000000 in
theorem equal_len (w : World) (a1 a2 : Option Addr) (c1 c2 : Nat) (x y : List UInt8) (h1 : BytesAt w (.slice a1 x.length c1) x) (h2 : BytesAt w (.slice a2 y.length c2) y) (hl : x.length = y.length) (hx : x.length ≤ 9223372036854775807) (r : Bool) (hr : r = decide (x = y)) :
    Calls Tryd.prog 10 #[.slice a1 x.length c1, .slice a2 y.length c2] w fun e w' => e = .returned (.bool r) ∧ New w w' := by
  have H0 : Hid (EInv w x y x.length (.int .i64 0) w) := ⟨0, Nat.zero_le _, rfl, by simp, Keep.refl _ _, rfl⟩
  have H1 := Lib.hid h1
  have H2 := Lib.hid h2
  have Hr := Lib.hid hr
  have Hl := Lib.hid hl
  have hne : ((x.length : Int) != y.length) = false := by simp; omega
  clear h1 h2 hr
  rw [← hl] at hne ⊢
  clear hl
  go_enter Tryd.func10, Tryd.ntmps10
  go_wp2_with fail
  go_loopg [13, 5] x.length (fun g i p wr => EInv w x y g i wr)
  case atStart => exact H0.out
  case round =>
    obtain ⟨k, hk, rfl, htk, hnw, rfl⟩ := hrel
    have Htk := Lib.hid htk
    clear htk
    by_cases hlt : k < x.length
    · have hly : k < y.length := by rw [← Hl.out]; exact hlt
      obtain ⟨b1, o1, rfl, hc1⟩ := bytes_one (H1.out.new hnw) hlt
      obtain ⟨b2, o2, rfl, hc2⟩ := bytes_one (H2.out.new hnw) hly
      have q1 := hc1 k hlt
      have q2 := hc2 k hly
      obtain ⟨u, hu⟩ : ∃ u : UInt8, u = x[k] := ⟨_, rfl⟩
      obtain ⟨v, hv⟩ : ∃ v : UInt8, v = y[k] := ⟨_, rfl⟩
      rw [← hu] at q1
      rw [← hv] at q2
      have Hu := Lib.hid hu
      have Hv := Lib.hid hv
      have Hnw := Lib.hid hnw
      have b1' := u.toNat_lt
      have b2' := v.toNat_lt
      have hlt' : (k : Int) < x.length := by omega
      clear hc1 hc2 hu hv hnw
      by_cases huv : u = v
      · subst huv
        have hb : ((u.toNat : Int) != u.toNat) = false := by simp
        go_wp2_with fail
        go_quiet (fail)
        go_wp2
        go_roundg (x.length - (k + 1))
        case measure => omega
        case rel =>
          refine ⟨k + 1, hlt, rfl, ?_, Hnw.out.drewN _, rfl⟩
          rw [List.take_add_one, List.take_add_one, Htk.out, List.getElem?_eq_getElem hlt, List.getElem?_eq_getElem hly, ← Hu.out, ← Hv.out]
      · have hb : ((u.toNat : Int) != v.toNat) = true := by
          simp only [bne_iff_ne, ne_eq]
          intro e
          exact huv (UInt8.toNat_inj.1 (by omega))
        have Hb := Lib.hid huv
        clear huv
        go_wp2_with fail
        go_quiet (fail)
        go_wp2
        go_ret
        refine ⟨?_, Hnw.out.drewN _⟩
        have : decide (x = y) = false := by
          apply decide_eq_false
          intro e
          subst e
          exact Hb.out (by rw [Hu.out, Hv.out])
        rw [Hr.out, this]; rfl
    · have hlt' : ¬ ((k : Int) < x.length) := by omega
      go_wp2
      go_ret
      refine ⟨?_, hnw⟩
      have hk' : k = x.length := by omega
      have e : x = y := by
        have := Htk.out
        rw [hk', List.take_length, Hl.out, List.take_length] at this
        exact this
      rw [Hr.out, decide_eq_true e]; rfl

/-- equal, whatever bytes. -/
theorem equal_any (w : World) (a1 a2 : Option Addr) (c1 c2 : Nat) (x y : List UInt8) (h1 : BytesAt w (.slice a1 x.length c1) x) (h2 : BytesAt w (.slice a2 y.length c2) y) (hx : x.length ≤ 9223372036854775807) (r : Bool) (hr : r = decide (x = y)) :
    Calls Tryd.prog 10 #[.slice a1 x.length c1, .slice a2 y.length c2] w fun e w' => e = .returned (.bool r) ∧ New w w' := by
  by_cases hl : x.length = y.length
  · exact equal_len w a1 a2 c1 c2 x y h1 h2 hl hx r hr
  · have hne : ((x.length : Int) != y.length) = true := by simp; omega
    have hr' : r = false := by rw [hr]; exact decide_eq_false (fun e => hl (by rw [e]))
    subst hr'
    clear hr h1 h2
    go_enter Tryd.func10, Tryd.ntmps10
    go_wp2
    go_ret
    exact ⟨rfl, Keep.refl _ _⟩

theorem equal_gen (w : World) (v1 v2 : Value) (x y : List UInt8) (h1 : BytesAt w v1 x) (h2 : BytesAt w v2 y) (hx : x.length ≤ 9223372036854775807) (r : Bool) (hr : r = decide (x = y)) :
    Calls Tryd.prog 10 #[v1, v2] w fun e w' => e = .returned (.bool r) ∧ New w w' := by
  obtain ⟨a1, c1, rfl, _⟩ := id h1
  obtain ⟨a2, c2, rfl, _⟩ := id h2
  rw [bytesV_length] at h1 ⊢
  rw [bytesV_length] at h2 ⊢
  exact equal_any w a1 a2 c1 c2 x y h1 h2 hx r hr
end Go.Proofs.YtfigpbcmnlkdjaaDoor
