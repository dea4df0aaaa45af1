/-
  The bytes' and integers' rows of the program's table, and the walk of copied.
-/
import Derived.Test.YtfigpbcmnlkdjaaDoorRows
import Derived.Test.YtfigpbcmnlkdjaaDoorMem
import Derived.RegionTactic
import Derived.BigRegion
import Derived.BigQuiet
import Derived.Deep.QuietTactic
import Derived.ChangeAlike
import Derived.Deep.RegionHeld3
import Derived.Deep.DeepCutAuto
import Derived.Deep.LoopGhost
namespace Go.Proofs.YtfigpbcmnlkdjaaDoor
open Go.RowKit

theorem infoByte : (Tryd.prog.info? 5).map (fun i => (i.zero, i.size, i.bytes)) = some (some (.int .u8 0), 1, 1) := by kernel_rfl
theorem sizeByte : (Tryd.prog.info? 5).map (·.size) = some 1 := by kernel_rfl
theorem infoInt : (Tryd.prog.info? 3).map (fun i => (i.zero, i.size, i.bytes)) = some (some (.int .i64 0), 1, 8) := by kernel_rfl

/-- copied: the same bytes in a row of their own. -/
theorem copied_any (v : Value) (l : List UInt8) (w : World) (h : BytesAt w v l) (hb : l.length ≤ 140737488355328) :
    Calls Tryd.prog 21 #[v] w fun e w' => ∃ a' c', e = .returned (.slice a' l.length c') ∧ w'.ownsRow w.heap.size 5 1 (.slice a' l.length c') l.length (bytesV l) ∧ New w w' := by
  obtain ⟨a, c, rfl, h1, h2, h3, h4⟩ := h
  obtain ⟨i0, hi, hz0, hz1, hz2⟩ := info_parts infoByte
  have hlen := bytesV_length l
  have hone := Lib.hid (bytesV_one l)
  have HL := Lib.hid hlen
  cases a with
  | none =>
    have hc := h3 rfl
    have hl : l = [] := List.eq_nil_of_length_eq_zero (by omega)
    subst hl
    subst hc
    clear h4 h3 hlen
    go_enter Tryd.func21, Tryd.ntmps21
    go_wp2_with (at_builtin; refine wpList_append_own_none rfl _ _ 23 rfl w.heap.size 5 i0 1 Tryd.underlying23 hi _ 0 [] rfl (World.ownsRow_nil _ _ _ _) rfl ?_)
    go_ret
    exact ⟨none, 0, rfl, World.ownsRow_nil _ _ _ _, Keep.refl _ _⟩
  | some ad =>
    have H4 := Lib.hid (h4 ad rfl)
    clear h4 h3 hlen
    have hm : l.length ≤ maxLen := by unfold maxLen; omega
    go_enter Tryd.func21, Tryd.ntmps21
    go_wp2_with (at_builtin; refine wpList_append_own _ rfl _ _ 23 rfl w.heap.size 5 i0 (.int .u8 0) 1 1 Tryd.underlying23 hi hz0 hz1 hz2 rfl (by decide) _ 0 [] rfl (World.ownsRow_nil _ _ _ _) ad (bytesV l).length c (bytesV l) rfl (by simp) H4.out hone.out ?c1 ?c2 (Nat.le_refl _) ?_)
    case c1 => rw [HL.out]; omega
    case c2 => rw [HL.out]; omega
    intro v' w' hown hgrow _
    have hown' : w'.ownsRow w.heap.size 5 1 v' l.length (bytesV l) := by
      have := HL.out
      simpa [this] using hown
    obtain ⟨a', c', hv⟩ := ownsRow_slice hown'
    rw [hv] at hown' ⊢
    clear hown hv
    go_wp2
    go_ret
    exact ⟨a', c', rfl, hown', New.of_grown hgrow⟩

end Go.Proofs.YtfigpbcmnlkdjaaDoor
