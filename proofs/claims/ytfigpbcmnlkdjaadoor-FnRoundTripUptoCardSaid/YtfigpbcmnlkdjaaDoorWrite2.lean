/-
  Write behind an error; Write in every case; the making of a writer.
-/
import Derived.Test.YtfigpbcmnlkdjaaDoorWrite
namespace Go.Proofs.YtfigpbcmnlkdjaaDoor
open Go.RowKit

def WBad (ea : Addr) (w : World) (b bb bs : Nat) (gv : Value) (st : Wr) (B : Nat) (p0 p nn : Value) (wr : World) : Prop :=
  p = p0 ∧ nn = .int .i64 0 ∧ WrAt ea wr b bb bs gv st B ∧ New w wr

set_option maxRecDepth 100000 in
set_option maxHeartbeats 1000000 in
theorem write_bad (ea : Addr) (w : World) (b bb bs : Nat) (gv : Value) (st : Wr) (B : Nat) (a : Option Addr) (n c : Nat) (h : WrAt ea w b bb bs gv st B) (hok : st.Ok) (he : st.err = true) :
    Calls Tryd.prog 25 #[.pointer (some ⟨b, 0, none⟩), .slice a n c] w fun e w' => e = .returned (.tuple #[.int .i64 0, esV ea]) ∧ WrAt ea w' b bb bs gv st B ∧ New w w' := by
  have H0 : Hid (WBad ea w b bb bs gv st B (.slice a n c) (.slice a n c) (.int .i64 0) w) := ⟨rfl, rfl, h, Keep.refl _ _⟩
  have He := Lib.hid he
  have h1 := hok.size
  have h2 := hok.buf
  clear h he
  go_enter Tryd.func25, Tryd.ntmps25
  go_wp2_with fail
  go_loopg [1, 4, 6] 0 (fun g p nn n6 wr => WBad ea w b bb bs gv st B (.slice a n c) p nn wr)
  case atStart => exact H0.out
  case round =>
    obtain ⟨rfl, rfl, hat, hn⟩ := hrel
    have Hat := Lib.hid hat
    clear hat
    by_cases hav : (n : Int) ≤ (st.size : Int) - st.buf.length
    all_goals
      go_wp2_with fail
      refine (available_any ea _ b bb bs gv st B Hat.out hok).mono ?_
      rintro e wa ⟨rfl, hwa, hna⟩
      have c0 : wa.cell? ⟨b, 0, none⟩ = some (.iface 93 (.pointer (some ea))) := cell_of hwa.wr (by simp [errW, He.out, esV])
      have Hwa := Lib.hid hwa
      have HKa := Lib.hid (hn.then hna)
      clear hwa hna
      go_wp2_with fail
      go_quiet (fail)
      go_wp2
      go_ret2
      exact ⟨rfl, Hwa.out.drewN _, HKa.out.drewN _⟩

/-- Write in every case. -/
theorem write_any (ea : Addr) (w : World) (b bb bs : Nat) (gv : Value) (st : Wr) (B : Nat) (p : Value) (l : List UInt8) (h : WrAt ea w b bb bs gv st B) (hf : st.Fits)
    (hp : BytesAt w p l) (hpb : ∀ i, Value.inBlock p i → ¬ wrSet b bb bs gv i) (hl : st.snk.got.length + st.buf.length + l.length ≤ 140737488355328)
    (hes : w.cell? ⟨7, 0, none⟩ = some (esV ea)) (hgl : 7 < B) :
    Calls Tryd.prog 25 #[.pointer (some ⟨b, 0, none⟩), p] w fun e w' => ∃ n s, e = .returned (.tuple #[.int .i64 (n : Nat), errW ea s.err]) ∧ st.Wrote l n s ∧ WrOut ea w b bb bs gv s B w' := by
  cases he : st.err with
  | false => exact write_ok ea w b bb bs gv st B p l h hf he hp hpb hl hes hgl
  | true =>
    obtain ⟨a, c, rfl, _⟩ := id hp
    refine (write_bad ea w b bb bs gv st B a _ c h hf.ok he).mono fun e w' ⟨h1, h2, h3⟩ => ?_
    refine ⟨0, st, by rw [h1, he]; rfl, ?_, gv, h2, fun _ hi => .inl hi, h3.mono (fun _ _ f => f.elim)⟩
    unfold Wr.Wrote
    rw [he]
    exact ⟨rfl, rfl⟩

theorem as_writing (v : Value) (w : World) : (Instr.typeAssert (.iface 62 v) 83 65 true).run Tryd.prog w = .ok (.tuple #[.pointer none, .bool false]) w := by kernel_rfl

def wsize (a : Int) : Nat := if a ≤ 0 then 4096 else a.toNat
theorem wsize_bounds (a : Int) (h2 : a ≤ 32767) : 1 ≤ wsize a ∧ wsize a ≤ 32767 := by unfold wsize; split <;> omega

theorem newWriter_end (ea : Addr) (bs : Nat) (gv : Value) (s : Snk) (B k : Nat) (w : World) (hs : SnkAt w bs gv s B) :
    ∃ b bb, Ending.returned (.pointer (some ⟨w.heap.size + 1, 0, none⟩)) = .returned (.pointer (some ⟨b, 0, none⟩)) ∧ w.heap.size ≤ b ∧ w.heap.size ≤ bb ∧
      WrAt ea ((w.alloc (Obj.cells (madeCells #[.int .u8 0] k) 5)).alloc (Obj.cells #[.nilIface, .slice (some ⟨w.heap.size, 0, none⟩) k k, .int .i64 0, .iface 62 (.pointer (some ⟨bs, 0, none⟩))] 86)) b bb bs gv ⟨s, k, [], false⟩ B ∧
      New w ((w.alloc (Obj.cells (madeCells #[.int .u8 0] k) 5)).alloc (Obj.cells #[.nilIface, .slice (some ⟨w.heap.size, 0, none⟩) k k, .int .i64 0, .iface 62 (.pointer (some ⟨bs, 0, none⟩))] 86)) := by
  have hlt : bs < w.heap.size := (Array.getElem?_eq_some_iff.1 hs.cells).1
  have hle := hs.le
  have hg : ∀ i, gv.ownBlock = some i → i < w.heap.size := fun i hi => (hs.own.lt i hi).2
  have hn : New w ((w.alloc (Obj.cells (madeCells #[.int .u8 0] k) 5)).alloc (Obj.cells #[.nilIface, .slice (some ⟨w.heap.size, 0, none⟩) k k, .int .i64 0, .iface 62 (.pointer (some ⟨bs, 0, none⟩))] 86)) := ((Keep.refl _ _).alloc _).alloc _
  refine ⟨_, w.heap.size, rfl, Nat.le_succ _, Nat.le_refl _, ⟨by omega, by omega, by omega, fun e => by have := hg _ e; omega, fun e => by have := hg _ e; omega, by omega, by omega, ?_, ⟨(madeCells #[.int .u8 0] k).toList, ?_, by simp [size_madeCells], by simp [bytesV]⟩, hs.keep hn (fun f => f) (fun _ _ f => f)⟩, hn⟩
  · have := heap_alloc_new (w.alloc (Obj.cells (madeCells #[.int .u8 0] k) 5)) (Obj.cells #[.nilIface, .slice (some ⟨w.heap.size, 0, none⟩) k k, .int .i64 0, .iface 62 (.pointer (some ⟨bs, 0, none⟩))] 86)
    simpa [errW] using this
  · rw [Below.heap_alloc _ _ _ (by simp)]
    simpa using heap_alloc_new w (Obj.cells (madeCells #[.int .u8 0] k) 5)

theorem newWriter_any (ea : Addr) (bs : Nat) (gv : Value) (s : Snk) (B : Nat) (n : Int) (w : World) (hs : SnkAt w bs gv s B) (h1 : -32768 ≤ n) (h2 : n ≤ 32767) :
    Calls Tryd.prog 24 #[.iface 62 (.pointer (some ⟨bs, 0, none⟩)), .int .i64 n] w fun e w' =>
      ∃ b bb, e = .returned (.pointer (some ⟨b, 0, none⟩)) ∧ w.heap.size ≤ b ∧ w.heap.size ≤ bb ∧ WrAt ea w' b bb bs gv ⟨s, wsize n, [], false⟩ B ∧ New w w' := by
  have has := as_writing
  have HS := Lib.hid hs
  clear hs
  by_cases h : n ≤ 0
  · have hmk : ∀ w, (Instr.makeSlice 23 (.int .i64 4096) (.int .i64 4096)).run Tryd.prog w = .ok (.slice (some ⟨w.heap.size, 0, none⟩) 4096 4096) (w.alloc (.cells (madeCells #[.int .u8 0] 4096) 5)) := fun w => run_make_row' (P := Tryd.prog) 23 5 (.int .u8 0) 1 Tryd.underlying23 infoByte rfl .i64 .i64 4096 (by omega) (by omega) w
    go_enter Tryd.func24, Tryd.ntmps24
    go_wp2
    go_ret
    rw [show wsize n = 4096 by unfold wsize; rw [if_pos h]]
    obtain ⟨b, bb, q1, q2, q3, q4, q5⟩ := newWriter_end ea bs gv s B 4096 w HS.out
    first | exact ⟨b, bb, q1, q2, q3, q4, q5⟩ | exact ⟨b, q1, q2, bb, q3, q4, q5⟩
  · obtain ⟨k, rfl⟩ := Int.eq_ofNat_of_zero_le (a := n) (by omega)
    have hmk := fun w => run_make_row' (P := Tryd.prog) 23 5 (.int .u8 0) 1 Tryd.underlying23 infoByte rfl .i64 .i64 k (by omega) (by omega) w
    have H' : Hid (wsize (k : Int) = k) := by show wsize (k : Int) = k; unfold wsize; split <;> omega
    go_enter Tryd.func24, Tryd.ntmps24
    go_wp2
    go_ret
    rw [H'.out]
    obtain ⟨b, bb, q1, q2, q3, q4, q5⟩ := newWriter_end ea bs gv s B k w HS.out
    first | exact ⟨b, bb, q1, q2, q3, q4, q5⟩ | exact ⟨b, q1, q2, bb, q3, q4, q5⟩
end Go.Proofs.YtfigpbcmnlkdjaaDoor
