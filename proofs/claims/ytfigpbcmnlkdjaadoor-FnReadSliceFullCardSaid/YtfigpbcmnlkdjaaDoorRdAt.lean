/-
  The reader: how it lies in memory, and the walks that make it.
-/
import Derived.Test.YtfigpbcmnlkdjaaDoorStart
namespace Go.Proofs.YtfigpbcmnlkdjaaDoor
open Go.RowKit

/-- The errors of the two kinds of ends; and blocks in which a source's data do not lie. -/
structure Evs where
  val : Bool → Value
  far : Nat → Prop
instance : CoeFun Evs (fun _ => Bool → Value) := ⟨Evs.val⟩

/-- An error value that waits in a reader: none, or the end of its source. -/
def errV (ev : Evs) (s : Src) (e : Bool) : Value := if e then ev s.eof else .nilIface

/-- A reader in block b, its buffer in block bb, its source in block br; ev gives the errors of the two kinds of ends. -/
structure RdAt (ev : Evs) (w : World) (b bb br : Nat) (st : Rd) : Prop where
  ne1 : b ≠ bb
  ne2 : b ≠ br
  ne3 : bb ≠ br
  rd : w.heap[b]? = some (.cells #[.slice (some ⟨bb, 0, none⟩) st.size st.size, .iface 50 (.pointer (some ⟨br, 0, none⟩)), .int .i64 st.r, .int .i64 st.buf.length, errV ev st.src st.err, .int .i64 st.lb, .int .i64 st.lr] 74 (0, 0))
  bf : ∃ cs : Array Value, w.heap[bb]? = some (.cells cs 5 (0, 0)) ∧ cs.size = st.size ∧ cs.toList.take st.buf.length = bytesV st.buf
  sr : SrcAt w br st.src (fun i => i = b ∨ i = bb ∨ i = br ∨ ev.far i)

theorem as_reading (v : Value) (w : World) : (Instr.typeAssert (.iface 50 v) 71 48 true).run Tryd.prog w = .ok (.tuple #[.pointer none, .bool false]) w := by kernel_rfl

theorem newReader_end (ev : Evs) (br : Nat) (s : Src) (k : Nat) (w : World) (hs : SrcAt w br s (fun i => i = br ∨ ev.far i)) :
    ∃ b bb, Ending.returned (.pointer (some ⟨w.heap.size, 0, none⟩)) = .returned (.pointer (some ⟨b, 0, none⟩)) ∧ w.heap.size ≤ b ∧ w.heap.size ≤ bb ∧
      RdAt ev ((w.alloc (Obj.cells #[.slice (some ⟨w.heap.size + 1, 0, none⟩) k k, .iface 50 (.pointer (some ⟨br, 0, none⟩)), .int .i64 0, .int .i64 0, .nilIface, .int .i64 (-1), .int .i64 (-1)] 74)).alloc (Obj.cells (madeCells #[.int .u8 0] k) 5)) b bb br (Rd.fresh s k) ∧
      New w ((w.alloc (Obj.cells #[.slice (some ⟨w.heap.size + 1, 0, none⟩) k k, .iface 50 (.pointer (some ⟨br, 0, none⟩)), .int .i64 0, .int .i64 0, .nilIface, .int .i64 (-1), .int .i64 (-1)] 74)).alloc (Obj.cells (madeCells #[.int .u8 0] k) 5)) := by
  have hlt := hs.lt
  have hn : New w ((w.alloc (Obj.cells #[.slice (some ⟨w.heap.size + 1, 0, none⟩) k k, .iface 50 (.pointer (some ⟨br, 0, none⟩)), .int .i64 0, .int .i64 0, .nilIface, .int .i64 (-1), .int .i64 (-1)] 74)).alloc (Obj.cells (madeCells #[.int .u8 0] k) 5)) := ((Keep.refl _ _).alloc _).alloc _
  refine ⟨_, w.heap.size + 1, rfl, Nat.le_refl _, Nat.le_succ _, ⟨by omega, by omega, by omega, ?_, ⟨madeCells #[.int .u8 0] k, ?_, size_madeCells _ _, by simp [Rd.fresh, bytesV]⟩, ?_⟩, hn⟩
  · rw [Below.heap_alloc _ _ _ (by simp)]
    exact heap_alloc_new _ _
  · have := heap_alloc_new (w.alloc (Obj.cells #[.slice (some ⟨w.heap.size + 1, 0, none⟩) k k, .iface 50 (.pointer (some ⟨br, 0, none⟩)), .int .i64 0, .int .i64 0, .nilIface, .int .i64 (-1), .int .i64 (-1)] 74)) (Obj.cells (madeCells #[.int .u8 0] k) 5)
    simpa using this
  · refine (hs.other (M := fun i => i = w.heap.size ∨ i = w.heap.size + 1 ∨ i = br ∨ ev.far i) (fun i hi hm => by rcases hm with e | e | e | e; omega; omega; exact .inl e; exact .inr e)).keep hn (fun f => f) (fun _ _ f => f.elim)

set_option maxHeartbeats 400000 in
theorem newReader_any (ev : Evs) (br : Nat) (s : Src) (n : Int) (w : World) (hs : SrcAt w br s (fun i => i = br ∨ ev.far i)) (h1 : -32768 ≤ n) (h2 : n ≤ 32767) :
    Calls Tryd.prog 17 #[.iface 50 (.pointer (some ⟨br, 0, none⟩)), .int .i64 n] w fun e w' =>
      ∃ b bb, e = .returned (.pointer (some ⟨b, 0, none⟩)) ∧ w.heap.size ≤ b ∧ w.heap.size ≤ bb ∧ RdAt ev w' b bb br (Rd.fresh s (max 16 n).toNat) ∧ New w w' := by
  have has := as_reading
  have hmk := fun (k : Nat) (hk : k ≤ 32767) w => run_make_row' (P := Tryd.prog) 23 5 (.int .u8 0) 1 Tryd.underlying23 infoByte rfl .i64 .i64 k (by omega) (by omega) w
  have HS := Lib.hid hs
  clear hs
  by_cases h : 16 ≤ n
  · obtain ⟨k, rfl⟩ := Int.eq_ofNat_of_zero_le (a := n) (by omega)
    have hm := hmk k (by omega)
    clear hmk
    go_enter Tryd.func17, Tryd.ntmps17
    go_wp2
    go_end0
    go_wp2
    go_ret
    have hmax : (max 16 (k : Int)).toNat = k := by omega
    rw [hmax]
    exact newReader_end ev br s k w HS.out
  · have hm := hmk 16 (by omega)
    clear hmk
    have hmk : ∀ w, (Instr.makeSlice 23 (.int .i64 16) (.int .i64 16)).run Tryd.prog w = .ok (.slice (some ⟨w.heap.size, 0, none⟩) 16 16) (w.alloc (.cells (madeCells #[.int .u8 0] 16) 5)) := hm
    clear hm
    go_enter Tryd.func17, Tryd.ntmps17
    go_wp2
    go_end0
    go_wp2
    go_ret
    have hmax : (max 16 n).toNat = 16 := by omega
    rw [hmax]
    exact newReader_end ev br s 16 w HS.out

theorem readerSize_any (ev : Evs) (b bb br : Nat) (st : Rd) (w : World) (h : RdAt ev w b bb br st) :
    Calls Tryd.prog 19 #[.pointer (some ⟨b, 0, none⟩)] w fun e w' => e = .returned (.int .i64 st.size) ∧ w = w' := by
  have c0 : w.cell? ⟨b, 0, none⟩ = some (.slice (some ⟨bb, 0, none⟩) st.size st.size) := by simp [World.cell?, h.rd]
  clear h
  go_enter Tryd.func19, Tryd.ntmps19
  go_wp2
  go_ret
  exact ⟨rfl, rfl⟩
end Go.Proofs.YtfigpbcmnlkdjaaDoor
