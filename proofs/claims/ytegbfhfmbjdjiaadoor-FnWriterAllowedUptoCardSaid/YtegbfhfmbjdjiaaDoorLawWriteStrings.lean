/-
  The walk of the law FnWriteStrings.
-/
import Derived.Test.YtegbfhfmbjdjiaaDoorPureW6
import Derived.Test.YtegbfhfmbjdjiaaDoorSame
import Derived.Test.YtegbfhfmbjdjiaaDoorJoined
namespace Go.Proofs.YtegbfhfmbjdjiaaDoor
open Go.RowKit

/-- More calls without bytes. -/
theorem CallsOwn.more {w w2 w' : World} {base : Nat} {v v' : Value} {cs ds : List CallR} {bvs : List Value} (h : CallsOwn w base v cs bvs) (k2 : New w w2) (hg : w2.grownBy w' v.ownBlock) (hds : ∀ d ∈ ds, d.bytes = [])
    (ho : w'.ownsRow base 37 4 v' (cs.length + ds.length) (callsV cs bvs ++ callsV ds (List.replicate ds.length (.slice none 0 0)))) (hb : ∀ i, v'.ownBlock = some i → v.ownBlock = some i ∨ i = w2.heap.size) :
    CallsOwn w' base v' (cs ++ ds) (bvs ++ List.replicate ds.length (.slice none 0 0)) := by
  have hkg : Keep (fun i => v.ownBlock = some i) w2 w' := (Keep.refl _ w2).grown hg (fun i hi => .inl hi)
  have hsz2 := k2.size
  have app : ∀ (cs : List CallR) (bvs : List Value), bvs.length = cs.length → callsV (cs ++ ds) (bvs ++ List.replicate ds.length (.slice none 0 0)) = callsV cs bvs ++ callsV ds (List.replicate ds.length (.slice none 0 0)) := by
    intro cs
    induction cs with
    | nil => intro bvs hb; have : bvs = [] := List.eq_nil_of_length_eq_zero hb; subst this; rfl
    | cons c cs ih =>
      intro bvs hb
      cases bvs with
      | nil => simp at hb
      | cons b bvs =>
        have := ih bvs (by simpa using hb)
        simp only [List.cons_append, callsV, this, List.append_assoc]
  have get : ∀ (j : Nat) (u : Value), (bvs ++ List.replicate ds.length (Value.slice none 0 0))[j]? = some u → (j < bvs.length ∧ bvs[j]? = some u) ∨ (bvs.length ≤ j ∧ u = .slice none 0 0) := fun j u hu => by
    by_cases e : j < bvs.length
    · rw [List.getElem?_append_left e] at hu; exact .inl ⟨e, hu⟩
    · rw [List.getElem?_append_right (by omega), List.getElem?_replicate] at hu
      split at hu
      · exact .inr ⟨by omega, (Option.some.inj hu).symm⟩
      · cases hu
  refine ⟨by rw [app cs bvs h.len, List.length_append]; exact ho, by simp [h.len], fun j u y hu hy => ?_, fun j u i hu hi => ?_⟩
  · rcases get j u hu with ⟨e, hu'⟩ | ⟨e, rfl⟩
    · rw [List.getElem?_append_left (by rw [← h.len]; exact e)] at hy
      exact RowAt.keep (RowAt.new (h.row j u y hu' hy) k2) hkg (fun i hi e => h.apart j u i hu' hi e)
    · rw [List.getElem?_append_right (by rw [← h.len]; exact e)] at hy
      rw [hds y (List.mem_of_getElem? hy)]
      exact ⟨none, 0, by simp [bytesV], by simp [bytesV], by unfold maxLen; omega, fun _ => rfl, fun ad e => by cases e⟩
  · rcases get j u hu with ⟨e2, hu'⟩ | ⟨_, rfl⟩
    · intro e
      rcases hb i e with e | e
      · exact h.apart j u i hu' hi e
      · subst e
        obtain ⟨y, hy⟩ : ∃ y, cs[j]? = some y := ⟨_, List.getElem?_eq_getElem (by rw [← h.len]; exact e2)⟩
        have := RowAt.lt (h.row j u y hu' hy) _ hi
        omega
    · obtain ⟨_, _, _, e, _⟩ := hi; simp at e

theorem intsAt_nil (w : World) : IntsAt w (.slice none 0 0) [] := ⟨none, 0, rfl, by simp [intsV], by unfold maxLen; omega, fun _ => rfl, fun ad e => by cases e⟩
theorem replV_snoc (k : Nat) (x : Int) : List.replicate (k + 1) (Value.int .i64 x) = List.replicate k (.int .i64 x) ++ [.int .i64 x] := by rw [List.replicate_succ']
theorem replV_ints (k : Nat) (x : Int) : List.replicate k (Value.int .i64 x) = intsV (List.replicate k x) := by simp [intsV, intV]

theorem callsW_asks : ∀ (cs : List CallR), (∀ c ∈ cs, c.kind = 0 ∨ c.kind = 3) → callsW cs = (asks cs).length + 4 * cs.length
  | [], _ => rfl
  | c :: cs, h => by
    have h1 := callsW_asks cs (fun d hd => h d (by simp [hd]))
    have h2 := h c (by simp)
    simp only [callsW, asks, ask, if_pos h2, List.length_append, List.length_cons]
    omega

theorem writes_n (w : World) (v1 v2 v3 : Value) (ks : List Int) (ps : List (List UInt8)) (rs : List Int) (m : Nat) (hm : ks.length = m) (h1 : IntsAt w v1 ks) (h2 : PartsAt w v2 ps) (h3 : IntsAt w v3 rs) (hk : m ≤ 1099511627776) (hp : (joined ps).length ≤ 140737488355328) :
    Calls Tryd.prog 5 #[v1, v2, v3] w fun e w' => ∃ a c bvs, e = .returned (.slice a m c) ∧ CallsOwn w' w.heap.size (.slice a m c) (writesR ks ps rs) bvs ∧ New w w' := by
  subst hm
  exact writes_any w v1 v2 v3 ks ps rs h1 h2 h3 hk hp

/-- The cells of two calls. -/
def two (x y : Int) : Array Value := #[.int .i64 x, .int .i64 0, .int .u8 0, .slice none 0 0, .int .i64 y, .int .i64 0, .int .u8 0, .slice none 0 0]
theorem two_calls (x y : Int) : callsV [callK x, callK y] (List.replicate 2 (.slice none 0 0)) = (two x y).toList := rfl
theorem two_one (x y : Int) : ∀ u ∈ (two x y).toList, u.oneCell' = true := by
  intro u hu
  simp [two] at hu
  rcases hu with rfl | rfl | rfl | rfl | rfl | rfl | rfl | rfl <;> rfl
theorem two_cells (w : World) (x y : Int) : ∀ ad', some (⟨w.heap.size, 0, none⟩ : Addr) = some ad' → CellsAt (w.alloc (.cells (two x y) 37)) ad' (two x y).toList := by
  intro ad' e' j u hu
  cases e'
  rw [addr_add, Nat.zero_add]
  exact (cell_new w (two x y) 37 j).trans (by simpa using hu)

def KKInv (w : World) (n : Nat) (x y : Int) (g : Nat) (v7 v8 i : Value) (wr : World) : Prop :=
  ∃ (k : Nat) (a1 a2 : Option Addr) (c1 c2 : Nat), k ≤ n ∧ i = .int .i64 k ∧ v7 = .slice a1 k c1 ∧ v8 = .slice a2 k c2 ∧ wr.ownsRow w.heap.size 3 1 v7 k (List.replicate k (.int .i64 x)) ∧ wr.ownsRow w.heap.size 3 1 v8 k (List.replicate k (.int .i64 y)) ∧
    (∀ i, v7.ownBlock = some i → v8.ownBlock ≠ some i) ∧ New w wr ∧ g = n - k

theorem infoIntA : (Tryd.prog.info? 3).map (fun i => (i.zero, i.size, i.bytes)) = some (some (.int .i64 0), 1, 8) := by kernel_rfl

end Go.Proofs.YtegbfhfmbjdjiaaDoor
