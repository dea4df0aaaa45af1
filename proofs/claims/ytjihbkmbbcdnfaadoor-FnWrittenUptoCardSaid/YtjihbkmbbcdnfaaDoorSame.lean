/-
  The walk of the laws' own sameOuts, at results of a writer that are the same.
-/
import Derived.Test.YtjihbkmbbcdnfaaDoorRun4
import Derived.Test.YtjihbkmbbcdnfaaDoorEqual
namespace Go.Proofs.YtjihbkmbbcdnfaaDoor
open Go.RowKit

theorem equal_nils (w : World) : Calls Tryd.prog 23 #[.slice none 0 0, .slice none 0 0] w fun e w' => e = .returned (.bool true) ∧ w' = w := by
  go_enter Tryd.func23, Tryd.ntmps23
  go_wp2_with fail
  go_loopg [13, 5] 0 (fun g i p wr => i = .int .i64 0 ∧ w = wr)
  case atStart => exact ⟨rfl, rfl⟩
  case round =>
    obtain ⟨rfl, rfl⟩ := hrel
    go_wp2
    go_ret
    exact ⟨rfl, rfl⟩

theorem outsV_get : ∀ (os : List OutW) (k : Nat) (o : OutW), os[k]? = some o → ∀ j, j < 5 → (outsV os)[k * 5 + j]? = (outA o.n o.err)[j]?
  | x :: os, 0, o, h, j, hj => by
    simp at h
    subst h
    simp only [outsV, Nat.zero_mul, Nat.zero_add]
    rw [List.getElem?_append_left (by simpa [outA] using hj)]
    simp
  | x :: os, k + 1, o, h, j, hj => by
    simp at h
    have := outsV_get os k o h j hj
    simp only [outsV]
    rw [List.getElem?_append_right (by simp [outA]; omega)]
    rw [← this]
    congr 1
    simp [outA]; omega
  | [], k, o, h, _, _ => by simp at h

/-- A result in a row. -/
theorem outs_at {w : World} {base : Nat} {v : Value} {os : List OutW} (h : w.ownsRow base 50 5 v os.length (outsV os)) {k : Nat} {o : OutW} (ho : os[k]? = some o) :
    ∃ g c, v = .slice (some ⟨g, 0, none⟩) os.length c ∧ os.length ≤ c ∧ (∀ j u, (outA o.n o.err)[j]? = some u → w.cell? ⟨g, k * 5 + j, none⟩ = some u) := by
  have hk : k < os.length := (List.getElem?_eq_some_iff.1 ho).1
  rcases h.2 with ⟨rfl, h0⟩ | ⟨g, cap, cur, rfl, hb, hg, h1, h2, h3, h4⟩
  · omega
  · refine ⟨g, cap, rfl, h1, fun j u hu => ?_⟩
    have hj : j < 5 := by have := (Array.getElem?_eq_some_iff.1 hu).1; simpa [outA] using this
    have h5 := outsV_get os k o ho j hj
    rw [hu, ← h4, List.getElem?_take] at h5
    split at h5
    · simp [World.cell?, hg]
      simpa using h5
    · cases h5

def SoInv (w : World) (n : Nat) (g : Nat) (i : Value) (wr : World) : Prop := ∃ k : Nat, k ≤ n ∧ i = .int .i64 k ∧ New w wr ∧ g = n - k

set_option maxRecDepth 100000 in
set_option maxHeartbeats 2000000 in
theorem sameOuts_same (w : World) (v1 v2 : Value) (B1 B2 : Nat) (os : List OutW) (h1 : w.ownsRow B1 50 5 v1 os.length (outsV os)) (h2 : w.ownsRow B2 50 5 v2 os.length (outsV os)) (hl : os.length ≤ 1099511627776) :
    Calls Tryd.prog 28 #[v1, v2] w fun e w' => e = .returned (.bool true) ∧ New w w' := by
  obtain ⟨a1, c1, rfl⟩ := ownsRow_slice h1
  obtain ⟨a2, c2, rfl⟩ := ownsRow_slice h2
  have H1 := Lib.hid h1
  have H2 := Lib.hid h2
  have H0 : Hid (SoInv w os.length os.length (.int .i64 0) w) := ⟨0, Nat.zero_le _, rfl, Keep.refl _ _, rfl⟩
  clear h1 h2
  go_enter Tryd.func28, Tryd.ntmps28
  go_wp2_with fail
  go_loopg [13, 5] os.length (fun g i x wr => SoInv w os.length g i wr)
  case atStart => exact H0.out
  case round =>
    obtain ⟨k, hk, rfl, hnw, rfl⟩ := hrel
    by_cases hlt : k < os.length
    · obtain ⟨o, ho⟩ : ∃ o, os[k]? = some o := ⟨_, List.getElem?_eq_getElem hlt⟩
      obtain ⟨g1, d1, e1, q1, r1⟩ := outs_at (ownsRow_keep H1.out hnw (fun _ _ f => f)) ho
      obtain ⟨g2, d2, e2, q2, r2⟩ := outs_at (ownsRow_keep H2.out hnw (fun _ _ f => f)) ho
      simp only [Value.slice.injEq] at e1 e2
      obtain ⟨rfl, _, rfl⟩ := e1
      obtain ⟨rfl, _, rfl⟩ := e2
      obtain ⟨on, oe⟩ := o
      have s0 := r1 0 (.slice none 0 0) rfl
      have s1 := r1 1 (.int .i64 on) rfl
      have s2 := r1 2 (.int .i32 0) rfl
      have s3 := r1 3 (.bool false) rfl
      have s4 := r1 4 (.int .i64 oe) rfl
      have t0 := r2 0 (.slice none 0 0) rfl
      have t1 := r2 1 (.int .i64 on) rfl
      have t2 := r2 2 (.int .i32 0) rfl
      have t3 := r2 3 (.bool false) rfl
      have t4 := r2 4 (.int .i64 oe) rfl
      rw [Nat.add_zero] at s0 t0
      have hlt' : (k : Int) < os.length := by omega
      have hk0 : (0 : Int) ≤ k := by omega
      have n1 : (on != on) = false := by simp
      have n2 : (oe != oe) = false := by simp
      have Hnw := Lib.hid hnw
      clear r1 r2 hnw ho
      go_wp2_with fail
      go_quiet ((go_at_call 23; exact Calls.quiet_of_same (equal_nils _)))
      go_wp2
      go_roundg (os.length - (k + 1))
      case measure => omega
      case rel => exact ⟨k + 1, hlt, by go_num, Hnw.out.drewN _, rfl⟩
    · obtain rfl : k = os.length := by omega
      have hnl : ¬ ((os.length : Int) < os.length) := by omega
      go_wp2
      go_ret
      exact ⟨rfl, hnw⟩
end Go.Proofs.YtjihbkmbbcdnfaaDoor
