/-
  The exact law's own helpers that only read: szByteS, szByteSS, eqByteS, heldByteS.
-/
import Derived.Test.YtjihbkmbbcdnfaaDoorWriteAll
import Derived.Test.YtjihbkmbbcdnfaaDoorEqual
namespace Go.Proofs.YtjihbkmbbcdnfaaDoor
open Go.RowKit

/-- What is left of a number when the parts' lengths are taken off, or -1. -/
def szParts : List (List UInt8) → Int → Int
  | [], l => l
  | p :: r, l => if l - p.length < 0 then -1 else szParts r (l - p.length)

theorem szParts_joined : ∀ (ps : List (List UInt8)) (l : Int), 0 ≤ szParts ps l → ((joined ps).length : Int) ≤ l
  | [], l, h => by simpa [joined, szParts] using h
  | p :: r, l, h => by
    unfold szParts at h
    split at h
    · omega
    · have := szParts_joined r _ h
      simp [joined] at this ⊢
      omega

theorem szParts_drop {ps : List (List UInt8)} {k : Nat} {p : List UInt8} (h : ps[k]? = some p) (l : Int) :
    szParts (ps.drop k) l = if l - p.length < 0 then -1 else szParts (ps.drop (k + 1)) (l - p.length) := by
  obtain ⟨hk, e⟩ := List.getElem?_eq_some_iff.1 h
  rw [List.drop_eq_getElem_cons hk, e, szParts]

theorem szByteS_any (w : World) (a : Option Addr) (n c : Nat) (l : Int) (hn : n ≤ 9223372036854775807) (h0 : 0 ≤ l) (h1 : l ≤ 1048576) (r : Int) (hr : r = if l - n < 0 then -1 else l - n) :
    Calls Tryd.prog 32 #[.slice a n c, .int .i64 l] w fun e w' => e = .returned (.int .i64 r) ∧ New w w' := by
  by_cases hlt : l - n < 0
  · rw [if_pos hlt] at hr
    subst hr
    go_enter Tryd.func32, Tryd.ntmps32
    go_wp2
    go_ret
    exact ⟨rfl, Keep.refl _ _⟩
  · rw [if_neg hlt] at hr
    subst hr
    go_enter Tryd.func32, Tryd.ntmps32
    go_wp2
    go_ret
    exact ⟨rfl, Keep.refl _ _⟩

def ZInv (w : World) (ps : List (List UInt8)) (r : Int) (g : Nat) (l i : Value) (wr : World) : Prop :=
  ∃ (k : Nat) (x : Int), k ≤ ps.length ∧ i = .int .i64 k ∧ l = .int .i64 x ∧ 0 ≤ x ∧ x ≤ 1048576 ∧ szParts (ps.drop k) x = r ∧ New w wr ∧ g = ps.length - k

set_option maxRecDepth 100000 in
set_option maxHeartbeats 1000000 in
theorem szByteSS_any (w : World) (v : Value) (ps : List (List UInt8)) (hv : PartsAt w v ps) (l : Int) (h0 : 0 ≤ l) (h1 : l ≤ 1048576) (r : Int) (hr : r = if l - ps.length < 0 then -1 else szParts ps (l - ps.length)) :
    Calls Tryd.prog 12 #[v, .int .i64 l] w fun e w' => e = .returned (.int .i64 r) ∧ New w w' := by
  obtain ⟨pvs, hrow, hpl, hps⟩ := hv
  obtain ⟨a, c, rfl, p1, p2, p3, p4⟩ := id hrow
  rw [hpl] at p1 hrow ⊢
  have HR := Lib.hid hrow
  have HPs := Lib.hid hps
  have Hpl := Lib.hid hpl
  have hm : ps.length ≤ 9223372036854775807 := by unfold maxLen at p2; omega
  clear hrow hps hpl p2 p3 p4
  by_cases hlt : l - ps.length < 0
  · rw [if_pos hlt] at hr
    subst hr
    go_enter Tryd.func12, Tryd.ntmps12
    go_wp2
    go_ret
    exact ⟨rfl, Keep.refl _ _⟩
  · rw [if_neg hlt] at hr
    have H0 : Hid (ZInv w ps r ps.length (.int .i64 (l - ps.length)) (.int .i64 0) w) := ⟨0, _, Nat.zero_le _, rfl, rfl, by omega, by omega, hr.symm, Keep.refl _ _, rfl⟩
    clear hr
    go_enter Tryd.func12, Tryd.ntmps12
    go_wp2_with fail
    go_loopg [1, 5] ps.length (fun g x i wr => ZInv w ps r g x i wr)
    case atStart => exact H0.out
    case round =>
      obtain ⟨k, x, hk, rfl, rfl, hx0, hx1, hz, hnw, rfl⟩ := hrel
      by_cases hlt2 : k < ps.length
      · obtain ⟨p, hp⟩ : ∃ p, ps[k]? = some p := ⟨_, List.getElem?_eq_getElem hlt2⟩
        obtain ⟨u, hu⟩ : ∃ u, pvs[k]? = some u := ⟨_, List.getElem?_eq_getElem (by rw [Hpl.out]; exact hlt2)⟩
        have hup := HPs.out k u p hu hp
        obtain ⟨ba, oa, rfl, hcell⟩ := RowAt.one HR.out (i := k) (by rw [Hpl.out]; exact hlt2)
        obtain ⟨au, cu, rfl, q1, q2, _⟩ := id hup
        rw [bytesV_length] at hup hu q1
        have hc : wr.cell? ⟨ba, oa + k, none⟩ = some (.slice au p.length cu) := hnw.cellAt (by
          rw [hcell k (by rw [Hpl.out]; exact hlt2)]
          have := List.getElem?_eq_some_iff.1 hu
          rw [this.2])
        rw [szParts_drop hp] at hz
        have hpm : p.length ≤ 9223372036854775807 := by unfold maxLen at q2; omega
        have Hz := Lib.hid hz
        have Hnw := Lib.hid hnw
        have hlt' : (k : Int) < ps.length := by omega
        obtain ⟨y, hy⟩ : ∃ y : Int, y = if x - p.length < 0 then -1 else x - p.length := ⟨_, rfl⟩
        have Hy := Lib.hid hy
        clear hup hcell hu hp hnw hz q1 q2 hy
        go_wp2_with fail
        refine (szByteS_any _ au p.length cu x hpm hx0 hx1 y Hy.out).mono ?_
        rintro e w2 ⟨rfl, hn2⟩
        have HN2 := Lib.hid (Hnw.out.then hn2)
        clear hn2
        by_cases hneg : x - p.length < 0
        · have hy := Hy.out
          rw [if_pos hneg] at hy
          have hz := Hz.out
          rw [if_pos hneg] at hz
          subst hy
          subst hz
          go_wp2
          go_ret
          exact ⟨rfl, HN2.out⟩
        · have hy := Hy.out
          rw [if_neg hneg] at hy
          have hz := Hz.out
          rw [if_neg hneg] at hz
          subst hy
          have Hz2 := Lib.hid hz
          clear hz
          have hnn : ¬ (x - p.length < 0) := hneg
          go_wp2
          go_roundg (ps.length - (k + 1))
          case measure => omega
          case rel => exact ⟨k + 1, _, hlt2, rfl, rfl, by omega, by omega, Hz2.out, HN2.out, rfl⟩
      · obtain rfl : k = ps.length := by omega
        have hnl : ¬ ((ps.length : Int) < ps.length) := by omega
        rw [List.drop_length, szParts] at hz
        subst hz
        go_wp2
        go_ret
        exact ⟨rfl, hnw⟩
end Go.Proofs.YtjihbkmbbcdnfaaDoor
