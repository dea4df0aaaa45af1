/-
  Calls of a writer in plain words, how they and their results lie in memory; Reset and number.
-/
import Derived.Test.YtjihbkmbbcdnfaaDoorWRune
import Derived.Test.YtjihbkmbbcdnfaaDoorGlob
namespace Go.Proofs.YtjihbkmbbcdnfaaDoor
open Go.RowKit

/-- An integer as an int32. -/
def i32of (n : Int) : Int := (n + 2147483648) % 4294967296 - 2147483648
theorem i32of_bounds (n : Int) : -2147483648 ≤ i32of n ∧ i32of n ≤ 2147483647 := by unfold i32of; omega

theorem wrap32_i32 (n : Int) : wrap32 n = i32of n := by unfold wrap32 i32of; rfl

/-- A call. -/
structure CallR where
  kind : Int
  n : Int
  delim : UInt8
  bytes : List UInt8

/-- What a call of a writer returns. -/
structure OutW where
  n : Int
  err : Int

def errN (e : Bool) : Int := if e then 9 else 0

/-- A writer on the first or the second of two sinks. -/
structure WW where
  wr : Wr
  other : Snk
  snd : Bool

def WW.reset (a : WW) : WW := if a.snd then { a with wr := ⟨a.wr.snk, a.wr.size, [], false⟩ } else ⟨⟨a.other, a.wr.size, [], false⟩, a.wr.snk, true⟩

/-- What a call may return, and leave of the writer. -/
def WW.Does (a : WW) (c : CallR) (o : OutW) (b : WW) : Prop :=
  if c.kind = 0 then ∃ (n : Nat) (s : Wr), a.wr.Wrote c.bytes n s ∧ (a.wr.err = false → s.err = false → s.buf.length = wlen a.wr.size a.wr.buf.length c.bytes.length) ∧ o = ⟨n, errN s.err⟩ ∧ b = { a with wr := s }
  else if c.kind = 1 then ∃ s : Wr, a.wr.Wrote [c.delim] (if s.err then 0 else 1) s ∧ (a.wr.err = false → s.err = false → s.buf.length = blen a.wr.size a.wr.buf.length) ∧ o = ⟨0, errN s.err⟩ ∧ b = { a with wr := s }
  else if c.kind = 2 then ∃ (n : Nat) (s : Wr), a.wr.Wrote (runeB (i32of c.n)) n s ∧ (a.wr.err = false → s.err = false → s.buf.length = rlen a.wr.size a.wr.buf.length (i32of c.n)) ∧ o = ⟨n, errN s.err⟩ ∧ b = { a with wr := s }
  else if c.kind = 3 then ∃ (n : Nat) (s : Wr), a.wr.Wrote c.bytes n s ∧ (a.wr.err = false → s.err = false → s.buf.length = slen a.wr.size a.wr.buf.length c.bytes.length) ∧ o = ⟨n, errN s.err⟩ ∧ b = { a with wr := s }
  else if c.kind = 4 then o = ⟨0, errN a.wr.flush.err⟩ ∧ b = { a with wr := a.wr.flush }
  else if c.kind = 5 then o = ⟨(a.wr.size : Int) - a.wr.buf.length, 0⟩ ∧ b = a
  else if c.kind = 6 then o = ⟨a.wr.buf.length, 0⟩ ∧ b = a
  else if c.kind = 7 then o = ⟨0, 0⟩ ∧ b = a.reset
  else o = ⟨0, 0⟩ ∧ b = a

/-- A writer over a sink in block cb, the other sink in block ob, nothing shared. -/
structure TwoAt (ea : Addr) (w : World) (b bb cb ob : Nat) (cg og : Value) (st : Wr) (so : Snk) (B : Nat) : Prop where
  wr : WrAt ea w b bb cb cg st B
  sk : SnkAt w ob og so B
  n1 : b ≠ ob
  n2 : bb ≠ ob
  n3 : cb ≠ ob
  o1 : og.ownBlock ≠ some b
  o2 : og.ownBlock ≠ some bb
  o3 : og.ownBlock ≠ some cb
  c1 : cg.ownBlock ≠ some ob
  c2 : ∀ i, cg.ownBlock = some i → og.ownBlock ≠ some i

theorem TwoAt.step {ea : Addr} {w w' : World} {b bb cb ob : Nat} {cg og cg' : Value} {st st' : Wr} {so : Snk} {B : Nat} (h : TwoAt ea w b bb cb ob cg og st so B) (hw : WrAt ea w' b bb cb cg' st' B)
    (hg : ∀ k, cg'.ownBlock = some k → cg.ownBlock = some k ∨ w.heap.size ≤ k) (hk : Keep (wrSet b bb cb cg) w w') : TwoAt ea w' b bb cb ob cg' og st' so B := by
  have hob : ob < w.heap.size := (Array.getElem?_eq_some_iff.1 h.sk.cells).1
  have hns : ¬ wrSet b bb cb cg ob := fun e => by
    rcases e with e | e | e | e
    · exact h.n1 e.symm
    · exact h.n2 e.symm
    · exact h.n3 e.symm
    · exact h.c1 e
  have hog : ∀ i, og.ownBlock = some i → ¬ wrSet b bb cb cg i := fun i hi e => by
    rcases e with e | e | e | e
    · exact h.o1 (e ▸ hi)
    · exact h.o2 (e ▸ hi)
    · exact h.o3 (e ▸ hi)
    · exact h.c2 i e hi
  refine ⟨hw, h.sk.keep hk hns hog, h.n1, h.n2, h.n3, h.o1, h.o2, h.o3, fun e => ?_, fun i hi e => ?_⟩
  · rcases hg ob e with e | e
    · exact h.c1 e
    · omega
  · rcases hg i hi with h1 | h1
    · exact h.c2 i h1 e
    · have := (h.sk.own.lt i e).2; omega

/-- The state behind a new sink's turn. -/
theorem TwoAt.turn {ea : Addr} {w w' : World} {b bb cb ob : Nat} {cg og : Value} {st : Wr} {so : Snk} {B : Nat} (h : TwoAt ea w b bb cb ob cg og st so B)
    (hw : WrAt ea w' b bb ob og ⟨so, st.size, [], false⟩ B) (hk : Keep (fun i => i = b) w w') : TwoAt ea w' b bb ob cb og cg ⟨so, st.size, [], false⟩ st.snk B :=
  ⟨hw, h.wr.sk.keep hk (fun e => h.wr.ne2 e.symm) (fun i hi e => h.wr.g1 (e ▸ hi)), h.wr.ne2, h.wr.ne3, fun e => h.n3 e.symm, h.wr.g1, h.wr.g2, h.c1, h.o3, fun i hi e => h.c2 i e hi⟩

theorem TwoAt.new {ea : Addr} {w w' : World} {b bb cb ob : Nat} {cg og : Value} {st : Wr} {so : Snk} {B : Nat} (h : TwoAt ea w b bb cb ob cg og st so B) (k : New w w') : TwoAt ea w' b bb cb ob cg og st so B :=
  ⟨h.wr.new k, h.sk.keep k (fun f => f) (fun _ _ f => f), h.n1, h.n2, h.n3, h.o1, h.o2, h.o3, h.c1, h.c2⟩

theorem number_errW (w : World) (B : Nat) (ad : Nat → Addr) (h : Errs w B ad) (e : Bool) : Calls Tryd.prog 39 #[errW (ad 7) e] w fun r w' => r = .returned (.int .i64 (errN e)) ∧ w = w' := by
  cases e with
  | false => exact number_nil w
  | true => exact number_sink w B ad h

theorem reset_eql (a : Addr) (v : Value) (w : World) : (binOp .eql 82 (.iface 65 (.pointer (some a))) (.iface 62 v)).run Tryd.prog w = .ok (.bool false) w :=
  run_eql_iface_types _ _ _ _ Tryd.underlying82 (by decide) w

theorem bufferedW_new (ea : Addr) (w : World) (b bb bs : Nat) (gv : Value) (st : Wr) (B : Nat) (h : WrAt ea w b bb bs gv st B) :
    Calls Tryd.prog 48 #[.pointer (some ⟨b, 0, none⟩)] w fun e w' => e = .returned (.int .i64 st.buf.length) ∧ New w w' :=
  (bufferedW_any ea w b bb bs gv st B h).mono fun _ _ ⟨h1, h2⟩ => ⟨h1, h2 ▸ Keep.refl _ _⟩

set_option maxRecDepth 100000 in
theorem resetW_any (ea : Addr) (w : World) (b bb cb bo : Nat) (cg og : Value) (st : Wr) (so : Snk) (B : Nat) (h : WrAt ea w b bb cb cg st B) (hs : SnkAt w bo og so B) (n1 : b ≠ bo) (n2 : bb ≠ bo) (o1 : og.ownBlock ≠ some b) (o2 : og.ownBlock ≠ some bb) :
    Calls Tryd.prog 52 #[.pointer (some ⟨b, 0, none⟩), .iface 62 (.pointer (some ⟨bo, 0, none⟩))] w fun e w' => e = .returned (.tuple #[]) ∧ WrAt ea w' b bb bo og ⟨so, st.size, [], false⟩ B ∧ Keep (fun i => i = b) w w' := by
  obtain ⟨m1, m2, m3, g1, g2, l1, l2, hwr, ⟨cs, hbf, hcl, hct⟩, hsk⟩ := h
  have c0 : w.cell? ⟨b, 0, none⟩ = some (errW ea st.err) := cell_of hwr rfl
  have c1 : w.cell? ⟨b, 1, none⟩ = some (.slice (some ⟨bb, 0, none⟩) st.size st.size) := cell_of hwr rfl
  have c2 : w.cell? ⟨b, 2, none⟩ = some (.int .i64 st.buf.length) := cell_of hwr rfl
  have c3 : w.cell? ⟨b, 3, none⟩ = some (.iface 62 (.pointer (some ⟨cb, 0, none⟩))) := cell_of hwr rfl
  have f0 : w.frozen? ⟨b, 0, none⟩ = false := frozen_of hwr
  have f2 : w.frozen? ⟨b, 2, none⟩ = false := frozen_of hwr
  have f3 : w.frozen? ⟨b, 3, none⟩ = false := frozen_of hwr
  have heq := reset_eql
  have hnil : ∀ w, (binOp .eql 27 (.slice (some ⟨bb, 0, none⟩) st.size st.size) (.slice none 0 0)).run Tryd.prog w = .ok (.bool false) w := fun w => Lib.run_eql_slice_nil (P := Tryd.prog) w 27 5 _ _ _ _ _ Tryd.underlying27
  have HW := Lib.hid hwr
  have HB := Lib.hid hbf
  have HC := Lib.hid hcl
  have HS := Lib.hid hs
  clear hwr hbf hcl hct hsk hs
  go_enter Tryd.func52, Tryd.ntmps52
  go_wp2
  go_end0
  have hk : Keep (fun i => i = b) w (((w.setCell ⟨b, 0, none⟩ .nilIface).setCell ⟨b, 2, none⟩ (.int .i64 0)).setCell ⟨b, 3, none⟩ (.iface 62 (.pointer (some ⟨bo, 0, none⟩)))) := (((Keep.refl _ _).set1 _ _).set1 _ _).set1 _ _
  refine ⟨rfl, ⟨m1, n1, n2, o1, o2, l1, l2, (heap_set (heap_set (heap_set HW.out _) _) _).trans (by simp [errW]), ⟨cs, (hk.block bb (Array.getElem?_eq_some_iff.1 HB.out).1 (fun e => m1 e.symm)).trans HB.out, HC.out, by simp [bytesV]⟩, HS.out.keep hk (fun e => n1 e.symm) (fun i hi e => o1 (e ▸ hi))⟩, hk⟩
end Go.Proofs.YtjihbkmbbcdnfaaDoor
