/-
  The walk of the laws' own sameOuts, at results of a writer that are the same.
-/
import Derived.Test.YtegbfhfmbjdjiaaDoorRun4
import Derived.Test.YtegbfhfmbjdjiaaDoorEqual
namespace Go.Proofs.YtegbfhfmbjdjiaaDoor
open Go.RowKit

theorem equal_nils (w : World) : Calls Tryd.prog 10 #[.slice none 0 0, .slice none 0 0] w fun e w' => e = .returned (.bool true) ∧ w' = w := by
  go_enter Tryd.func10, Tryd.ntmps10
  go_wp2_with fail
  go_loopg [13, 5] 0 (fun g i p wr => i = .int .i64 0 ∧ w = wr)
  case atStart => exact ⟨rfl, rfl⟩
  case round =>
    obtain ⟨rfl, rfl⟩ := hrel
    go_wp2
    go_ret
    exact ⟨rfl, rfl⟩

theorem outsV_get : ∀ (os : List OutW) (k : Nat) (o : OutW), os[k]? = some o → ∀ j, j < 5 → (outsV os)[k * 5 + j]? = (outA o.n o.err)[j]?
  | x :: os, 0, o, h, j, hj => by
    simp at h
    subst h
    simp only [outsV, Nat.zero_mul, Nat.zero_add]
    rw [List.getElem?_append_left (by simpa [outA] using hj)]
    simp
  | x :: os, k + 1, o, h, j, hj => by
    simp at h
    have := outsV_get os k o h j hj
    simp only [outsV]
    rw [List.getElem?_append_right (by simp [outA]; omega)]
    rw [← this]
    congr 1
    simp [outA]; omega
  | [], k, o, h, _, _ => by simp at h

/-- A result in a row. -/
theorem outs_at {w : World} {base : Nat} {v : Value} {os : List OutW} (h : w.ownsRow base 41 5 v os.length (outsV os)) {k : Nat} {o : OutW} (ho : os[k]? = some o) :
    ∃ g c, v = .slice (some ⟨g, 0, none⟩) os.length c ∧ os.length ≤ c ∧ (∀ j u, (outA o.n o.err)[j]? = some u → w.cell? ⟨g, k * 5 + j, none⟩ = some u) := by
  have hk : k < os.length := (List.getElem?_eq_some_iff.1 ho).1
  rcases h.2 with ⟨rfl, h0⟩ | ⟨g, cap, cur, rfl, hb, hg, h1, h2, h3, h4⟩
  · omega
  · refine ⟨g, cap, rfl, h1, fun j u hu => ?_⟩
    have hj : j < 5 := by have := (Array.getElem?_eq_some_iff.1 hu).1; simpa [outA] using this
    have h5 := outsV_get os k o ho j hj
    rw [hu, ← h4, List.getElem?_take] at h5
    split at h5
    · simp [World.cell?, hg]
      simpa using h5
    · cases h5

def SoInv (w : World) (n : Nat) (g : Nat) (i : Value) (wr : World) : Prop := ∃ k : Nat, k ≤ n ∧ i = .int .i64 k ∧ New w wr ∧ g = n - k

end Go.Proofs.YtegbfhfmbjdjiaaDoor
