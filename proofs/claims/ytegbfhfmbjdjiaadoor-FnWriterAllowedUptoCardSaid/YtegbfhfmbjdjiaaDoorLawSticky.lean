/-
  The walk of the law FnSticky.
-/
import Derived.Test.YtegbfhfmbjdjiaaDoorPureW8
import Derived.Test.YtegbfhfmbjdjiaaDoorAsked
import Derived.Test.YtegbfhfmbjdjiaaDoorLawWriteStrings
namespace Go.Proofs.YtegbfhfmbjdjiaaDoor
open Go.RowKit

section
variable {P : Program}
theorem slice_upto_any (t e : TypeId) (s : Nat) (ht : P.underlying t = some (.slice e)) (hsz : (P.info? e).map (·.size) = some s) (a : Option Addr) (n c hi : Nat) (h2 : hi ≤ c) (k2 : IntKind) :
    ∀ w, (Instr.slice t (.slice a n c) none (some (.int k2 hi)) none).run P w = .ok (.slice a hi c) w := by
  obtain ⟨i, hi', hs⟩ := Option.map_eq_some_iff.1 hsz
  intro w
  simp [Instr.slice, run_underlying ht, Instr.sliceBounds, Instr.sliceBound, asIntOf, sizeOf, typeInfo, hi', h2]
  intro _
  cases a <;> simp [Addr.add]
end
theorem sizeCall : (Tryd.prog.info? 37).map (·.size) = some 4 := by kernel_rfl

/-- The cells of three calls. -/
def three (x y z : Int) : Array Value := #[.int .i64 x, .int .i64 0, .int .u8 0, .slice none 0 0, .int .i64 y, .int .i64 0, .int .u8 0, .slice none 0 0, .int .i64 z, .int .i64 0, .int .u8 0, .slice none 0 0]
theorem three_calls (x y z : Int) : callsV [callK x, callK y, callK z] (List.replicate 3 (.slice none 0 0)) = (three x y z).toList := rfl
theorem three_one (x y z : Int) : ∀ u ∈ (three x y z).toList, u.oneCell' = true := by
  intro u hu
  simp [three] at hu
  rcases hu with rfl | rfl | rfl | rfl | rfl | rfl | rfl | rfl | rfl | rfl | rfl | rfl <;> rfl
theorem three_cells (w : World) (x y z : Int) : ∀ ad', some (⟨w.heap.size, 0, none⟩ : Addr) = some ad' → CellsAt (w.alloc (.cells (three x y z) 37)) ad' (three x y z).toList := by
  intro ad' e' j u hu
  cases e'
  rw [addr_add, Nat.zero_add]
  exact (cell_new w (three x y z) 37 j).trans (by simpa using hu)

def KInv (w : World) (ks : List Int) (top : Int) (g : Nat) (i : Value) (wr : World) : Prop :=
  ∃ k : Nat, k ≤ ks.length ∧ i = .int .i64 k ∧ (∀ x ∈ ks.take k, 0 ≤ x ∧ x ≤ top) ∧ New w wr ∧ g = ks.length - k

def AllInv (w : World) (cs : List CallR) (g : Nat) (v i : Value) (wr : World) : Prop :=
  ∃ (k : Nat) (ao : Option Addr) (co n : Nat) (x : List UInt8), k ≤ cs.length ∧ i = .int .i64 k ∧ v = .slice ao n co ∧ n = x.length ∧ x = asks (cs.take k) ∧ wr.ownsRow w.heap.size 5 1 v n (bytesV x) ∧ New w wr ∧ g = cs.length - k

theorem kinds_writes {ks : List Int} {ps : List (List UInt8)} {rs : List Int} {top : Int} (h : ∀ x ∈ ks, 0 ≤ x ∧ x ≤ top) : ∀ c ∈ writesR ks ps rs, 0 ≤ c.kind ∧ c.kind ≤ top := by
  intro c hc
  simp only [writesR, List.mem_map, List.mem_range] at hc
  obtain ⟨i, hi, rfl⟩ := hc
  refine h _ ?_
  show ks.getD i 0 ∈ ks
  rw [List.getD_eq_getElem?_getD, List.getElem?_eq_getElem hi]
  exact List.getElem_mem hi

theorem asks_take_le (cs : List CallR) (k : Nat) : (asks (cs.take k)).length ≤ (asks cs).length := by
  have h : asks cs = asks (cs.take k) ++ asks (cs.drop k) := by rw [← asks_append, List.take_append_drop]
  rw [h, List.length_append]; omega
theorem asks_take_succ {cs : List CallR} {k : Nat} {y : CallR} (hy : cs[k]? = some y) : asks (cs.take (k + 1)) = asks (cs.take k) ++ ask y := by
  rw [List.take_add_one, hy, asks_append]; simp [asks]

def FInv (w : World) (e : Nat → Bool) (N : Nat) (g : Nat) (vf i : Value) (wr : World) : Prop :=
  ∃ k : Nat, k ≤ N ∧ i = .int .i64 k ∧ vf = .bool (e k) ∧ New w wr ∧ g = N - k

end Go.Proofs.YtegbfhfmbjdjiaaDoor
