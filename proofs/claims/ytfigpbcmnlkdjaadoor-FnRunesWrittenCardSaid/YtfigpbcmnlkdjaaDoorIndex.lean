/-
  The walks of IndexByte and readErr in general.
-/
import Derived.Test.YtfigpbcmnlkdjaaDoorSlice0
import Derived.Test.YtfigpbcmnlkdjaaDoorFillA
namespace Go.Proofs.YtfigpbcmnlkdjaaDoor
open Go.RowKit

theorem idxOf_first {d : UInt8} : ∀ {l : List UInt8} {o : Nat}, l[o]? = some d → (∀ k, k < o → l[k]? ≠ some d) → l.idxOf d = o
  | [], o, h1, _ => by simp at h1
  | x :: l, 0, h1, _ => by
    simp only [List.getElem?_cons_zero, Option.some.injEq] at h1
    subst h1
    simp [List.idxOf_cons]
  | x :: l, o + 1, h1, h2 => by
    have hx : x ≠ d := fun e => h2 0 (by omega) (by simp [e])
    have hb : (x == d) = false := by simpa using hx
    rw [List.idxOf_cons, hb]
    simp only [cond_false]
    rw [idxOf_first (l := l) (o := o) (by simpa using h1) (fun k hk => by have := h2 (k + 1) (by omega); simpa using this)]

theorem indexByte_eq (l : List UInt8) (d : UInt8) : Lib.indexByte l d = if d ∈ l then (l.idxOf d : Int) else -1 := by
  have hge := Lib.indexByte_ge l d
  by_cases hm : d ∈ l
  · rw [if_pos hm]
    by_cases hn : Lib.indexByte l d = -1
    · obtain ⟨k, hk, e⟩ := List.mem_iff_getElem.1 hm
      exact absurd (by rw [List.getElem?_eq_getElem hk, e]) (Lib.indexByte_none hn k)
    · obtain ⟨o, ho⟩ := Int.eq_ofNat_of_zero_le (a := Lib.indexByte l d) (by omega)
      obtain ⟨h1, h2⟩ := Lib.indexByte_some ho
      rw [ho, idxOf_first h1 h2]
  · rw [if_neg hm]; exact indexByte_absent l d hm

theorem index_any (w : World) (bb off n c : Nat) (x : List UInt8) (hn : x.length = n) (hc : CellsAt w ⟨bb, off, none⟩ (bytesV x)) (d : UInt8) (r : Int) (hr : r = if d ∈ x then (x.idxOf d : Int) else -1) :
    Calls Tryd.prog 30 #[.slice (some ⟨bb, off, none⟩) n c, .int .u8 (d.toNat : Int)] w fun e w' => e = .returned (.int .i64 r) ∧ w = w' := by
  have hrun := Lib.run_indexByteSlice (P := Tryd.prog) w bb off n c (x.map fun y => (y.toNat : Int)) (by simp [hn]) (fun i hi => by
    have h1 := hc i (byteV (x[i]'(by omega))) (by simp [bytesV, hn, hi])
    rw [show (⟨bb, off, none⟩ : Addr).add i = ⟨bb, off + i, none⟩ by unfold Addr.add; split <;> simp_all] at h1
    rw [h1]
    simp [byteV, hn, hi]) (d.toNat : Int)
  rw [bytesOf_ints, show ((d.toNat : Int)).toNat.toUInt8 = d by simp, indexByte_eq x d, ← hr] at hrun
  have hcall : (callFunc 39 #[.slice (some ⟨bb, off, none⟩) n c, .int .u8 (d.toNat : Int)]).run Tryd.prog w = .ok (.value (.int .i64 r)) w := by
    rw [run_callFunc_extern Tryd.func39 (by kernel_rfl) (by kernel_rfl) (by kernel_rfl) (show _ = some Extern.BytealgIndexByte.indexByte from by kernel_rfl), hrun]
    rfl
  clear hrun hc hr
  go_enter Tryd.func30, Tryd.ntmps30
  go_wp2
  go_ret
  exact ⟨rfl, rfl⟩

/-- readErr: the error that waits, and none behind it. -/
theorem readErr_any (ev : Evs) (w : World) (b bb br : Nat) (st : Rd) (h : RdAt ev w b bb br st) :
    Calls Tryd.prog 31 #[.pointer (some ⟨b, 0, none⟩)] w fun e w' => e = .returned (errV ev st.src st.err) ∧ RdAt ev w' b bb br st.clear ∧ Keep (fun i => i = b) w w' := by
  obtain ⟨n1, n2, n3, hrd, ⟨cs, hbf, hcs, hct⟩, hsr⟩ := h
  have hrd' := hrd
  generalize hv : errV ev st.src st.err = v at hrd ⊢
  have c4 : w.cell? ⟨b, 4, none⟩ = some v := cell_of hrd rfl
  have f4 : w.frozen? ⟨b, 4, none⟩ = false := frozen_of hrd
  have Hrd := Lib.hid hrd
  have Hbf := Lib.hid hbf
  have Hcs := Lib.hid hcs
  have Hct := Lib.hid hct
  have Hsr := Lib.hid hsr
  clear hrd hrd' hbf hcs hct hsr hv
  go_enter Tryd.func31, Tryd.ntmps31
  go_wp2
  go_ret
  have hk : Keep (fun i => i = b) w (w.setCell ⟨b, 4, none⟩ .nilIface) := (Keep.refl _ w).set1 4 _
  refine ⟨rfl, ⟨n1, n2, n3, (heap_set Hrd.out _).trans ?_, ⟨cs, ?_, Hcs.out, Hct.out⟩, Hsr.out.keep hk (fun e => n2 e.symm) (fun i _ e => .inl e)⟩, hk⟩
  · simp [Rd.clear, errV]
  · exact (hk.block bb (Array.getElem?_eq_some_iff.1 Hbf.out).1 (fun e => n1 e.symm)).trans Hbf.out
end Go.Proofs.YtfigpbcmnlkdjaaDoor
