/-
  FnReaderSize returns true for every size: a reader's buffer has at least the size asked for, and one byte. Condition: none.
-/
import Derived.Test.YtogihgjejbiiaaaSizes2
import Derived.ProofKit
import Derived.OpenShut
import Derived.ChangeOld
namespace Go.Proofs.Ytogihgjejbiiaaa.fnReaderSize
open Go.ChangeShapes Go.WideShapes Go.ChangeAt Go.RowKit
set_option linter.unusedVariables false

theorem own : ownKnob Try.prog.godebug = none := by kernel_rfl

theorem walk (a0 : Int) (h1 : -32768 ≤ a0) (h2 : a0 ≤ 32767) (w : World) :
    Calls Try.prog 7 #[.int .i16 a0] w fun e w' => e = .returned (.bool true) ∧ New w w' := by
  by_cases h : a0 ≤ 16
  · go_enter Try.func7, Try.ntmps7
    go_wp2_with fail
    refine (implReaderSize_lo a0 h1 h2 (by omega) _).mono ?_
    rintro e w1 ⟨rfl, hn1⟩
    go_wp2_with fail
    refine (implReaderSize_lo a0 h1 h2 (by omega) _).mono ?_
    rintro e w2 ⟨rfl, hn2⟩
    go_wp2
    all_goals go_ret
    all_goals exact ⟨by first | rfl | (simp; omega), hn1.then hn2⟩
  · go_enter Try.func7, Try.ntmps7
    go_wp2_with fail
    refine (implReaderSize_hi a0 h1 h2 (by omega) _).mono ?_
    rintro e w1 ⟨rfl, hn1⟩
    go_wp2_with fail
    refine (implReaderSize_hi a0 h1 h2 (by omega) _).mono ?_
    rintro e w2 ⟨rfl, hn2⟩
    go_wp2
    all_goals go_ret
    all_goals exact ⟨by first | rfl | (simp; omega), hn1.then hn2⟩

set_option maxRecDepth 100000 in
theorem lifted (os : Os) (started : os.Started) (H : Type) (enc : TypeId × Value → H) :
    ReturnsInHanded {} Try.checked os 7 .any (Rows.fnReaderSizeSpec.pre6 enc Try.prog Try.f7 Rows.fnReaderSizeRow.domain false) (Rows.fnReaderSizeSpec.post enc Try.prog Try.f7 false true false false) := by
  refine returnsInHanded_of_change (C := Try.checked) own started (by kernel_rfl) Try.func7
    (ChangeSpec.witness6 (enc := enc) (C := Try.checked) false ⟨#[], #[.int .i16 0], []⟩ 8 (by kernel_rfl) (by kernel_rfl) (by kernel_rfl) (by kernel_rfl)) ?_
  intro W base args ds gs before hval0 hW hcnd _
  have hval : ∀ (j : Nat) t v, Try.f7.params[j]? = some t → args[j]? = some v → Value.okWide Try.prog W .any base t v := hval0
  have hW' := hW
  obtain ⟨p, q, hA0, hV, rfl, hfz, hnd⟩ := hW
  have hA : DataW.TrodAll enc Try.prog W 0 (fun _ => true) true Try.f7.params.toList args.toList ds p := hA0
  rw [Try.params7] at hA hval
  obtain ⟨v0, vs0, d0, ds0, p0, q0, hargs, rfl, rfl, h0, r0⟩ := trodAll_cons hA
  obtain ⟨rfl, rfl, rfl⟩ := trodAll_nil r0
  obtain rfl : args = #[v0] := by cases args; simp_all
  obtain ⟨rfl, rfl⟩ := trodVars_none hV
  obtain ⟨a0, rfl, rfl, rfl, w0⟩ := open_int Try.underlying22 (hval 0 22 v0 rfl rfl) h0
  clear hA0 hval0
  have hb : -32768 ≤ a0 ∧ a0 ≤ 32767 := bounds_i16 w0
  refine (walk a0 hb.1 hb.2 W).mono fun e W' ⟨he, hk⟩ => ?_
  subst he
  have bel : Below W.heap.size W W' := hk.below (Nat.le_refl _) (fun _ _ f => f)
  exact ⟨_, rfl, _, _, _, [], [], [], hW', trodAll_mk1 (shut_bool Try.underlying4 _), trodAll_cons_mk (shut_int Try.underlying22 w0) trodAll_mk0, rfl, bel.frame _, fun h => by cases h⟩

theorem over : Rows.fnReaderSizeRow.holds Try.pinned (OpenSpec.ofChange Rows.fnReaderSizeSpec) :=
  OpenClaim.holds_of_wide 7 Try.f7 rfl rfl rfl rfl rfl rfl rfl ⟨rfl, rfl, rfl, rfl, rfl⟩ rfl rfl rfl rfl rfl (by kernel_rfl) Try.func7 (by kernel_rfl)
    (of_decide_eq_true (by kernel_rfl)) (by unfold Func.isWrapper; first | (rw [if_pos (by decide +kernel)]; kernel_rfl) | (rw [if_neg (by decide +kernel)]; exact ⟨rfl, rfl⟩))
    (fun os started H enc _ => lifted os started H enc)

theorem proved : Rows.FnReaderSizeSaid := over
#print axioms proved
end Go.Proofs.Ytogihgjejbiiaaa.fnReaderSize
