/-
  What the row's list of package-level errors gives: each variable holds a pointer of its own.
-/
import Derived.Test.YtfigpbcmnlkdjaaDoorGlob
import Derived.LaidMore
import Derived.Deep.DeepHandedRow
import Derived.Deep.DeepWitnessRowRef
import Derived.WalkSmall
namespace Go.Proofs.YtfigpbcmnlkdjaaDoor
open Go.RowKit Go.ChangeShapes

theorem nameES : Tryd.prog.typeName? 3 93 = some "*errors.errorString" := by kernel_rfl
theorem cellsES : Tryd.prog.cellsOf 110 = 1 := by kernel_rfl
theorem cellsStr : Tryd.prog.cellsOf 9 = 1 := by kernel_rfl
theorem rowES (u : TypeId) (h : Tryd.prog.typeName? 3 u = some "*errors.errorString") : u = 93 :=
  typeName_ptr_named (nm := "errors.errorString") (by kernel_rfl) (by kernel_rfl) (by decide) u h

theorem sentinel_head {n : String} {text : List UInt8} {r : List (String × DataW Unit)} {W : World} {g : Nat}
    (h : laidMet Tryd.prog ((n, .iface "*errors.errorString" (.ptr (.agg [.lit (.string text)]))) :: r) W)
    (hg : Tryd.prog.globalNamed n = some g) (ht : (Tryd.prog.globals[g]?).map (·.type) = some 54) :
    ∃ (a : Addr) (s : ByteArray), W.var? Tryd.prog n = some #[.iface 93 (.pointer (some a))] ∧ W.cell? a = some (.string s) ∧ s.data.toList = text ∧ ∃ c t, W.heap[a.block]? = some (.cells c t (0, 0)) := by
  obtain ⟨ps, ⟨g0, t0, cs0, f0, p0, q0, hg0, ht0, hv0, hd0, _, e0⟩, _, hrows⟩ := h
  obtain rfl := Option.some.inj (hg.symm.trans hg0)
  obtain rfl := Option.some.inj (ht.symm.trans ht0)
  subst e0
  obtain ⟨l0⟩ := cs0
  have ok0 : ∀ u v, l0 = [.iface u v] → Value.okWide Tryd.prog W .any 0 u v := fun u v e => by
    subst e
    exact (hrows g 0 (by simp [MemPlace.row])).2 u v (by simpa using World.var?_cell hg0 hv0 0)
  obtain ⟨a0, s0, rfl, hc0, hs0, hz0, rfl⟩ := errorString_of_trod Tryd.underlying54 rowES Tryd.underlying93 Tryd.underlying110 rfl rfl Tryd.underlying9 cellsES cellsStr hd0 ok0
  exact ⟨a0, s0, hv0, hc0, hs0, (hrows a0.block a0.off (by simp [MemPlace.row])).1⟩

/-- A sentinel, told for the walks. -/
theorem errAt_of {n : String} {W : World} {g : Nat} {a : Addr} (hg : Tryd.prog.globalNamed n = some g) (hv : W.var? Tryd.prog n = some #[.iface 93 (.pointer (some a))]) (hb : ∃ c t, W.heap[a.block]? = some (.cells c t (0, 0))) : ErrAt W W.heap.size g a := by
  have hc : W.cell? ⟨g, 0, none⟩ = some (.iface 93 (.pointer (some a))) := by simpa using World.var?_cell hg hv 0
  obtain ⟨c, t, h⟩ := hb
  exact ⟨hc, ⟨c, t, h⟩, World.block_lt_of_cell? W _ hc, (Array.getElem?_eq_some_iff.1 h).1⟩

theorem text_ne {W : World} {a b : Addr} {s t : ByteArray} {x y : List UInt8} (h1 : W.cell? a = some (.string s)) (e1 : s.data.toList = x) (h2 : W.cell? b = some (.string t)) (e2 : t.data.toList = y) (hne : x ≠ y) : a ≠ b := by
  rintro rfl
  rw [h1] at h2
  cases h2
  exact hne (e1.symm.trans e2)
end Go.Proofs.YtfigpbcmnlkdjaaDoor
