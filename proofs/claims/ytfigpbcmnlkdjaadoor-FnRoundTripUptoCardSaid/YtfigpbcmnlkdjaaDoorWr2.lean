/-
  The walks of Flush in every case, Available, Buffered, Size, and of the making of a writer.
-/
import Derived.Test.YtfigpbcmnlkdjaaDoorWrAt
namespace Go.Proofs.YtfigpbcmnlkdjaaDoor
open Go.RowKit

theorem WrOut.same {ea : Addr} {w : World} {b bb bs : Nat} {gv : Value} {st : Wr} {B : Nat} (h : WrAt ea w b bb bs gv st B) : WrOut ea w b bb bs gv st B w :=
  ⟨gv, h, fun _ hk => .inl hk, Keep.refl _ _⟩

theorem WrAt.new {ea : Addr} {w w' : World} {b bb bs : Nat} {gv : Value} {st : Wr} {B : Nat} (h : WrAt ea w b bb bs gv st B) (k : New w w') : WrAt ea w' b bb bs gv st B := by
  obtain ⟨cs, h1, h2, h3⟩ := h.bf
  exact ⟨h.ne1, h.ne2, h.ne3, h.g1, h.g2, h.le1, h.le2, (k.block _ (Array.getElem?_eq_some_iff.1 h.wr).1 (fun f => f)).trans h.wr, ⟨cs, (k.block _ (Array.getElem?_eq_some_iff.1 h1).1 (fun f => f)).trans h1, h2, h3⟩, h.sk.keep k (fun f => f) (fun _ _ f => f)⟩

/-- The blocks of a writer are there, and lie from B on. -/
theorem WrAt.blocks {ea : Addr} {w : World} {b bb bs : Nat} {gv : Value} {st : Wr} {B : Nat} (h : WrAt ea w b bb bs gv st B) : ∀ i, wrSet b bb bs gv i → B ≤ i ∧ i < w.heap.size := by
  obtain ⟨cs, h1, _⟩ := h.bf
  have a1 := (Array.getElem?_eq_some_iff.1 h.wr).1
  have a2 := (Array.getElem?_eq_some_iff.1 h1).1
  have a3 := (Array.getElem?_eq_some_iff.1 h.sk.cells).1
  rintro i (e | e | e | e)
  · subst e; exact ⟨h.le1, a1⟩
  · subst e; exact ⟨h.le2, a2⟩
  · subst e; exact ⟨h.sk.le, a3⟩
  · exact h.sk.own.lt i e

theorem WrAt.drewN {ea : Addr} {w : World} {b bb bs : Nat} {gv : Value} {st : Wr} {B : Nat} (h : WrAt ea w b bb bs gv st B) (n : Nat) : WrAt ea (w.drewN n) b bb bs gv st B :=
  ⟨h.ne1, h.ne2, h.ne3, h.g1, h.g2, h.le1, h.le2, h.wr, h.bf, ⟨h.sk.cells, h.sk.own, h.sk.ne, h.sk.le⟩⟩

set_option maxRecDepth 100000 in
theorem flush_any (ea : Addr) (w : World) (b bb bs : Nat) (gv : Value) (st : Wr) (B : Nat) (h : WrAt ea w b bb bs gv st B) (hf : st.Fits)
    (hes : w.cell? ⟨7, 0, none⟩ = some (esV ea)) (hgl : 7 < B) :
    Calls Tryd.prog 26 #[.pointer (some ⟨b, 0, none⟩)] w fun e w' => e = .returned (errW ea st.flush.err) ∧ WrOut ea w b bb bs gv st.flush B w' := by
  cases he : st.err with
  | true =>
    have e : st.flush = st := by unfold Wr.flush; simp [he]
    have c0 : w.cell? ⟨b, 0, none⟩ = some (.iface 93 (.pointer (some ea))) := cell_of h.wr (by simp [errW, he, esV])
    have H := Lib.hid (WrOut.same h)
    rw [e, he]
    clear h hf hes e he
    go_enter Tryd.func26, Tryd.ntmps26
    go_wp2
    go_ret
    exact ⟨rfl, H.out⟩
  | false =>
    by_cases hb : st.buf = []
    · have e : st.flush = st := by unfold Wr.flush; simp [hb]
      have c0 : w.cell? ⟨b, 0, none⟩ = some .nilIface := cell_of h.wr (by simp [errW, he])
      have c2 : w.cell? ⟨b, 2, none⟩ = some (.int .i64 0) := cell_of h.wr (by simp [hb])
      have H := Lib.hid (WrOut.same h)
      rw [e, he]
      clear h hf hes e he hb
      go_enter Tryd.func26, Tryd.ntmps26
      go_wp2
      go_ret
      exact ⟨rfl, H.out⟩
    · have hle := st.snk.fits_le st.buf.length
      by_cases hfit : st.snk.fits st.buf.length = st.buf.length
      · exact flush_all ea w b bb bs gv st B h hf he hb hfit hes hgl
      · exact flush_some ea w b bb bs gv st B h hf he hb _ rfl (by omega) hes hgl

theorem available_any (ea : Addr) (w : World) (b bb bs : Nat) (gv : Value) (st : Wr) (B : Nat) (h : WrAt ea w b bb bs gv st B) (hok : st.Ok) :
    Calls Tryd.prog 36 #[.pointer (some ⟨b, 0, none⟩)] w fun e w' => e = .returned (.int .i64 ((st.size : Int) - st.buf.length)) ∧ WrAt ea w' b bb bs gv st B ∧ New w w' := by
  have c1 : w.cell? ⟨b, 1, none⟩ = some (.slice (some ⟨bb, 0, none⟩) st.size st.size) := cell_of h.wr rfl
  have c2 : w.cell? ⟨b, 2, none⟩ = some (.int .i64 st.buf.length) := cell_of h.wr rfl
  have h1 := hok.size
  have h2 := hok.buf
  have H := Lib.hid h
  clear h hok
  go_enter Tryd.func36, Tryd.ntmps36
  go_wp2
  go_quiet (fail)
  go_wp2
  go_ret
  exact ⟨rfl, H.out.drewN _, (Keep.refl _ _).drewN _⟩

theorem bufferedW_any (ea : Addr) (w : World) (b bb bs : Nat) (gv : Value) (st : Wr) (B : Nat) (h : WrAt ea w b bb bs gv st B) :
    Calls Tryd.prog 37 #[.pointer (some ⟨b, 0, none⟩)] w fun e w' => e = .returned (.int .i64 st.buf.length) ∧ w = w' := by
  have c2 : w.cell? ⟨b, 2, none⟩ = some (.int .i64 st.buf.length) := cell_of h.wr rfl
  clear h
  go_enter Tryd.func37, Tryd.ntmps37
  go_wp2
  go_ret
  exact ⟨rfl, rfl⟩
end Go.Proofs.YtfigpbcmnlkdjaaDoor
