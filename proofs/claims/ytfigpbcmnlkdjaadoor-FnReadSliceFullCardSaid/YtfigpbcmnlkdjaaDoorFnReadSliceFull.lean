/-
  FnReadSliceFull returns true: where the data are longer than the buffer and the delimiter does not come within it, ReadSlice returns the full buffer and bufio.ErrBufferFull. Condition: the package's errors hold what their initialisers lay (the card ties them).
-/
import Derived.Test.YtfigpbcmnlkdjaaDoorLawReadSliceFull
import Derived.Test.YtfigpbcmnlkdjaaDoorOpenW2
import Derived.Test.YtfigpbcmnlkdjaaDoorDoorR
import Derived.ChangeOld
namespace Go.Proofs.YtfigpbcmnlkdjaaDoor.fnReadSliceFull
open Go.ChangeShapes Go.WideShapes Go.ChangeAt Go.RowKit
set_option linter.unusedVariables false

theorem contract (H : Type) (enc : TypeId × Value → H) (W : World) (base : Nat) (args : Array Value) (ds gs : List (DataW H)) (before : List MemPlace)
    (hval : ∀ (j : Nat) t v, Tryd.f3.params[j]? = some t → args[j]? = some v → Value.okWide Tryd.prog W .any base t v)
    (hW : DataW.Whole enc Tryd.prog Tryd.f3.params.toList Rows.fnReadSliceFullSpec.vars false W args.toList ds gs before) (hL : laidMetH Tryd.prog laidW W) (hsz : (DataW.weightsEach Tryd.prog (Tryd.f3.params.toList ++ (OpenSpec.ofChange Rows.fnReadSliceFullSpec).bare.plain.varTypes Tryd.prog) (ds ++ gs)).all (· ≤ reachBytes) = true) :
    Calls Tryd.prog 3 args W fun e W' => ∃ v, e = .returned v ∧ Rows.fnReadSliceFullSpec.post enc Tryd.prog Tryd.f3 false true false false W args v W' := by
  have hW' := hW
  obtain ⟨p, q, hA0, hV, rfl, hfz, hnd⟩ := hW
  have hA : DataW.TrodAll enc Tryd.prog W 0 (fun _ => true) true Tryd.f3.params.toList args.toList ds p := hA0
  rw [Tryd.params3] at hA hval
  obtain ⟨v0, vs0, d0, ds0, p0, q0, hargs, rfl, rfl, h0, r0⟩ := trodAll_cons hA
  obtain ⟨v1, vs1, d1, ds1, p1, q1, rfl, rfl, rfl, h1, r1⟩ := trodAll_cons r0
  obtain ⟨v2, vs2, d2, ds2, p2, q2, rfl, rfl, rfl, h2, r2⟩ := trodAll_cons r1
  obtain ⟨v3, vs3, d3, ds3, p3, q3, rfl, rfl, rfl, h3, r3⟩ := trodAll_cons r2
  obtain ⟨v4, vs4, d4, ds4, p4, q4, rfl, rfl, rfl, h4, r4⟩ := trodAll_cons r3
  obtain ⟨v5, vs5, d5, ds5, p5, q5, rfl, rfl, rfl, h5, r5⟩ := trodAll_cons r4
  obtain ⟨rfl, rfl, rfl⟩ := trodAll_nil r5
  obtain rfl : args = #[v0, v1, v2, v3, v4, v5] := by cases args; simp_all
  obtain ⟨ad, hE, hv7⟩ := errs_of_laid hL
  obtain ⟨rfl, rfl⟩ := hV.unique (vars_read1 enc gn7 gt7 Tryd.underlying54 hv7 trivial _)
  have k0 := h0
  have lt0 : ∀ x ∈ p0, x.block < W.heap.size := by obtain ⟨m, hm⟩ := k0; exact DataW.trod_lt m _ _ _ hm
  obtain ⟨a0, rfl, rfl, rfl, w0⟩ := open_int Tryd.underlying22 (hval 0 22 v0 rfl rfl) h0
  have b0 := bounds_i16 w0
  have k1 := h1
  have lt1 : ∀ x ∈ p1, x.block < W.heap.size := by obtain ⟨m, hm⟩ := k1; exact DataW.trod_lt m _ _ _ hm
  obtain ⟨x1, len1, cap1, rfl⟩ := okWide_slice Tryd.underlying23 (hval 1 23 v1 rfl rfl)
  obtain ⟨l1, hl1, hbulk1⟩ := bytes_openW h1
  have k2 := h2
  have lt2 : ∀ x ∈ p2, x.block < W.heap.size := by obtain ⟨m, hm⟩ := k2; exact DataW.trod_lt m _ _ _ hm
  obtain ⟨x2, len2, cap2, rfl⟩ := okWide_slice Tryd.underlying24 (hval 2 24 v2 rfl rfl)
  obtain ⟨l2, hl2, hbulk2⟩ := ints_openW h2
  have k3 := h3
  have lt3 : ∀ x ∈ p3, x.block < W.heap.size := by obtain ⟨m, hm⟩ := k3; exact DataW.trod_lt m _ _ _ hm
  obtain ⟨a3, rfl, rfl, rfl, w3⟩ := open_int Tryd.underlying3 (hval 3 3 v3 rfl rfl) h3
  have b3 := bounds_i64 w3
  have k4 := h4
  have lt4 : ∀ x ∈ p4, x.block < W.heap.size := by obtain ⟨m, hm⟩ := k4; exact DataW.trod_lt m _ _ _ hm
  obtain ⟨a4, rfl, rfl, rfl⟩ := open_bool Tryd.underlying4 (hval 4 4 v4 rfl rfl) h4
  have k5 := h5
  have lt5 : ∀ x ∈ p5, x.block < W.heap.size := by obtain ⟨m, hm⟩ := k5; exact DataW.trod_lt m _ _ _ hm
  obtain ⟨a5, rfl, rfl, rfl, w5⟩ := open_int Tryd.underlying5 (hval 5 5 v5 rfl rfl) h5
  have b5 := bounds_u8 w5
  clear hA0
  refine (walkFnReadSliceFull W W.heap.size ad hE (Nat.le_refl _) a0 a3 a5 a4 _ _ l1 l2 b0.1 b0.2 b5 hl1 hl2.1 ⟨hbulk1 _ (fun es sp e => by subst e; have h9 := sized_slice hsz (j := 1) (t := 23) rfl rfl Tryd.underlying23; rw [show Tryd.prog.bytesOf 5 = 1 by kernel_rfl] at h9; have h10 := reachBytes_lt; omega), hbulk2 _ (fun es sp e => by subst e; have h9 := sized_slice hsz (j := 2) (t := 24) rfl rfl Tryd.underlying24; rw [show Tryd.prog.bytesOf 3 = 8 by kernel_rfl] at h9; have h10 := reachBytes_lt; omega)⟩).mono fun e W' ⟨he, hn⟩ => ?_
  subst he
  have bel : Below W.heap.size W W' := hn.below (Nat.le_refl _) (fun _ _ f => f)
  exact ⟨_, rfl, _, _, _, [], _, _, hW', trodAll_mk1 (shut_bool Tryd.underlying4 _), (trodAll_cons_mk (Below.trod laidOut (by kernel_rfl) (of_decide_eq_true (by kernel_rfl)) k0 bel lt0) (trodAll_cons_mk (Below.trod laidOut (by kernel_rfl) (of_decide_eq_true (by kernel_rfl)) k1 bel lt1) (trodAll_cons_mk (Below.trod laidOut (by kernel_rfl) (of_decide_eq_true (by kernel_rfl)) k2 bel lt2) (trodAll_cons_mk (Below.trod laidOut (by kernel_rfl) (of_decide_eq_true (by kernel_rfl)) k3 bel lt3) (trodAll_cons_mk (Below.trod laidOut (by kernel_rfl) (of_decide_eq_true (by kernel_rfl)) k4 bel lt4) (trodAll_cons_mk (Below.trod laidOut (by kernel_rfl) (of_decide_eq_true (by kernel_rfl)) k5 bel lt5) trodAll_mk0)))))),
    vars_read1 enc gn7 gt7 Tryd.underlying54 (var?_below bel gn7 hE.e7.lt hv7) trivial _, bel.frame _, fun h => by cases h⟩

theorem reads (os : Os) {H : Type} (enc : TypeId × Value → H) : ∃ places, DataW.whole enc Tryd.prog ((World.doorLaid Tryd.prog 209 os).forCall (fun _ _ => 0) ⟨#[], #[.int .i16 0, .slice none 0 0, .slice none 0 0, .int .i64 0, .bool false, .int .u8 0], []⟩).memory Tryd.f3.params.toList Rows.fnReadSliceFullSpec.vars false #[Value.int .i16 0, .slice none 0 0, .slice none 0 0, .int .i64 0, .bool false, .int .u8 0].toList 8 =
    some ([.lit (.int .i16 0), .nil, .nil, .lit (.int .i64 0), .lit (.bool false), .lit (.int .u8 0)], [tok enc (((World.doorLaid Tryd.prog 209 os).forCall (fun _ _ => 0) ⟨#[], #[.int .i16 0, .slice none 0 0, .slice none 0 0, .int .i64 0, .bool false, .int .u8 0], []⟩).memory.cell? ⟨7, 0, none⟩ |>.getD .nilFunc)], places) :=
  ⟨[.cell 7 0], by kernel_rfl⟩

set_option maxRecDepth 100000 in
theorem lifted (os : Os) (started : os.Started) (H : Type) (enc : TypeId × Value → H) (F : Stop.Interp) :
    ReturnsInHanded {} Tryd.checked os 3 .any ((OpenSpec.ofChange Rows.fnReadSliceFullSpec).preRow enc Tryd.prog Tryd.f3 Rows.fnReadSliceFullRow.domain false Rows.fnReadSliceFullRow.laid) (((OpenSpec.ofChange Rows.fnReadSliceFullSpec).at F).post enc Tryd.prog Tryd.f3 false true false false) := by
  obtain ⟨places, hx⟩ := reads os enc
  refine returnsInHanded_of_row (C := Tryd.checked) (s := OpenSpec.ofChange Rows.fnReadSliceFullSpec) own started (by kernel_rfl) Tryd.func3
    (witness_row_at (enc := enc) (C := Tryd.checked) false (World.doorLaid Tryd.prog 209 os) #[.int .i16 0, .slice none 0 0, .slice none 0 0, .int .i64 0, .bool false, .int .u8 0] rfl (by kernel_rfl) (by kernel_rfl) (by kernel_rfl)
      (OpenSpec.preRow_of_cond 8 hx (by kernel_rfl) (fun k hk => by cases hk) (by kernel_rfl) (door_met os _))) ?_
  intro W base args ds gs before hval hW _ hcond hsz hL _ _
  exact contract H enc W base args ds gs before hval hW hL hsz

theorem said : Rows.FnReadSliceFullSaid :=
  OpenClaim.holds_of_cond 3 Tryd.f3 rfl rfl rfl rfl rfl rfl rfl ⟨rfl, rfl, rfl, rfl, rfl⟩ rfl rfl rfl rfl rfl (by kernel_rfl) Tryd.func3 (by kernel_rfl)
    (of_decide_eq_true (by kernel_rfl)) (by unfold Func.isWrapper; first | (rw [if_pos (by decide +kernel)]; kernel_rfl) | (rw [if_neg (by decide +kernel)]; exact ⟨rfl, rfl⟩))
    (fun os started H enc _ F => by rw [OpenClaim.pre_eq_preRow]; exact lifted os started H enc F)

theorem plain (f : FuncId) (fn : Func) (hf : Tryd.pinned.checked.prog.funcNamed "loop.example/lib-g01191/laws.FnReadSliceFull" = some f) (hfn : Tryd.pinned.checked.prog.funcs[f]? = some fn) :
    true = Tryd.pinned.checked.prog.looks [] ∧ ∀ (j : Nat) t, fn.params[j]? = some t → Tryd.pinned.checked.prog.wantsStandIn t = false := by
  obtain rfl : f = 3 := Option.some.inj ((show Tryd.prog.funcNamed "loop.example/lib-g01191/laws.FnReadSliceFull" = some 3 by kernel_rfl).symm.trans hf) |>.symm
  obtain rfl : fn = Tryd.f3 := (Option.some.inj (Tryd.func3.symm.trans hfn)).symm
  refine ⟨by kernel_rfl, fun j t ht => ?_⟩
  rw [Tryd.params3] at ht
  have hm := Array.mem_of_getElem? ht
  simp only [List.mem_toArray, List.mem_cons, List.not_mem_nil, or_false] at hm
  have e0 : Tryd.prog.wantsStandIn 22 = false := by kernel_rfl
  have e1 : Tryd.prog.wantsStandIn 23 = false := by kernel_rfl
  have e2 : Tryd.prog.wantsStandIn 24 = false := by kernel_rfl
  have e3 : Tryd.prog.wantsStandIn 3 = false := by kernel_rfl
  have e4 : Tryd.prog.wantsStandIn 4 = false := by kernel_rfl
  have e5 : Tryd.prog.wantsStandIn 5 = false := by kernel_rfl
  rcases hm with rfl | rfl | rfl | rfl | rfl | rfl
  · exact e0
  · exact e1
  · exact e2
  · exact e3
  · exact e4
  · exact e5

theorem card : Rows.FnReadSliceFullCardSaid :=
  Claim7.holds_tied_plain_at .later [] _ _ _ _ said (fun _ h => by cases h) (by kernel_rfl) (fun _ h => by cases h) fnReadSliceFull_row_tie rfl ⟨rfl, rfl⟩ (by kernel_rfl) rfl plain (by kernel_rfl)
#print axioms card
end Go.Proofs.YtfigpbcmnlkdjaaDoor.fnReadSliceFull
