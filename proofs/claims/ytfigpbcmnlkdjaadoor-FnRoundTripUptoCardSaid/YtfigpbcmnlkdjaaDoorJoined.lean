/-
  The walk of the laws' own joined.
-/
import Derived.Test.YtfigpbcmnlkdjaaDoorWriteAll
namespace Go.Proofs.YtfigpbcmnlkdjaaDoor
open Go.RowKit

def JInv (w : World) (ps : List (List UInt8)) (g : Nat) (o i : Value) (wr : World) : Prop :=
  ∃ (k : Nat) (a : Option Addr) (c : Nat), k ≤ ps.length ∧ i = .int .i64 k ∧ o = .slice a (joined (ps.take k)).length c ∧ wr.ownsRow w.heap.size 5 1 o (joined (ps.take k)).length (bytesV (joined (ps.take k))) ∧ New w wr ∧ g = ps.length - k

set_option maxRecDepth 100000 in
set_option maxHeartbeats 1000000 in
theorem lawJoined (w : World) (v : Value) (ps : List (List UInt8)) (hv : PartsAt w v ps) (hall : (joined ps).length ≤ 140737488355328) (y : List UInt8) (hy : y = joined ps) :
    Calls Tryd.prog 13 #[v] w fun e w' => ∃ a' c', e = .returned (.slice a' y.length c') ∧ w'.ownsRow w.heap.size 5 1 (.slice a' y.length c') y.length (bytesV y) ∧ New w w' := by
  obtain ⟨pvs, hrow, hpl, hps⟩ := hv
  obtain ⟨a, c, rfl, p1, p2, p3, p4⟩ := id hrow
  rw [hpl] at p1 hrow ⊢
  obtain ⟨i0, hi, hz0, hz1, hz2⟩ := info_parts infoByte
  have HR := Lib.hid hrow
  have HPs := Lib.hid hps
  have Hpl := Lib.hid hpl
  have Hy := Lib.hid hy
  have hm : ps.length ≤ 9223372036854775807 := by unfold maxLen at p2; omega
  have H0 : Hid (JInv w ps ps.length (.slice none 0 0) (.int .i64 0) w) := ⟨0, none, 0, Nat.zero_le _, rfl, by simp [joined], by simpa [joined, bytesV] using World.ownsRow_nil w _ _ _, Keep.refl _ _, rfl⟩
  clear hrow hps hpl p2 p3 p4 hy
  go_enter Tryd.func13, Tryd.ntmps13
  go_wp2_with fail
  go_loopg [3, 8, 5] ps.length (fun g o i p wr => JInv w ps g o i wr)
  case atStart => exact H0.out
  case round =>
    obtain ⟨k, ao, co, hk, rfl, rfl, hown, hnw, rfl⟩ := hrel
    by_cases hlt : k < ps.length
    · obtain ⟨p, hp⟩ : ∃ p, ps[k]? = some p := ⟨_, List.getElem?_eq_getElem hlt⟩
      obtain ⟨u, hu⟩ : ∃ u, pvs[k]? = some u := ⟨_, List.getElem?_eq_getElem (by rw [Hpl.out]; exact hlt)⟩
      have hup := HPs.out k u p hu hp
      obtain ⟨ba, oa, rfl, hcell⟩ := RowAt.one HR.out (i := k) (by rw [Hpl.out]; exact hlt)
      obtain ⟨au, cu, rfl, _⟩ := id hup
      rw [bytesV_length] at hup hu
      have hc : wr.cell? ⟨ba, oa + k, none⟩ = some (.slice au p.length cu) := hnw.cellAt (by
        rw [hcell k (by rw [Hpl.out]; exact hlt)]
        have := List.getElem?_eq_some_iff.1 hu
        rw [this.2])
      have hjs := joined_take_succ ps k p hp
      have hjl := joined_take_le ps (k + 1)
      have hjl2 : (joined (ps.take k)).length + p.length ≤ 140737488355328 := by rw [hjs] at hjl; simp at hjl; omega
      obtain ⟨z, hz⟩ : ∃ z, z = joined (ps.take k) := ⟨_, rfl⟩
      rw [← hz] at hown hjs hjl2 ⊢
      have hpp := RowAt.parts (hup.new hnw)
      have Hown := Lib.hid hown
      have Hpp := Lib.hid hpp
      have Hjs := Lib.hid hjs
      have Hnw := Lib.hid hnw
      have Hpv := Lib.hid (bytesV_length p)
      have hlt' : (k : Int) < ps.length := by omega
      have hbase := hnw.size
      clear hup hjs hjl hcell hu hp hnw hown hpp hz
      go_wp2_with (at_builtin; refine wpList_append_row rfl _ _ 23 rfl w.heap.size 5 i0 (.int .u8 0) 1 1 Tryd.underlying23 hi hz0 hz1 hz2 rfl (by decide) _ z.length (bytesV z) rfl Hown.out au p.length cu (bytesV p) rfl Hpp.out.2.2.1 ?c1 Hpp.out.2.2.2 (bytesV_one _) ?c2 ?c3 hbase ?_)
      case c1 => rw [Hpv.out]; omega
      case c2 => unfold maxLen; omega
      case c3 => omega
      intro a3 c3 w3 ho3 hg3 hb3
      have H3 : Hid (JInv w ps (ps.length - (k + 1)) (.slice a3 (z.length + p.length) c3) (.int .i64 ((k + 1 : Nat) : Int)) w3) := by
        refine ⟨k + 1, a3, c3, hlt, rfl, ?_, ?_, ?_, rfl⟩
        · rw [Hjs.out]; simp
        · rw [Hjs.out, bytesV_append]; simpa using ho3
        · exact Hnw.out.trans ((Keep.refl (fun i => (Value.slice ao z.length co).ownBlock = some i) _).grown hg3 (fun i hi => .inl hi)) (fun i hi e => by have := (Hown.out.lt i e).1; omega)
      clear ho3 hg3 hb3
      go_wp2
      go_roundg (ps.length - (k + 1))
      case measure => omega
      case rel => exact H3.out
    · obtain rfl : k = ps.length := by omega
      rw [List.take_length, ← Hy.out] at hown ⊢
      have hnl : ¬ ((ps.length : Int) < ps.length) := by omega
      have Hown := Lib.hid hown
      clear hown hlt
      go_wp2
      go_ret
      exact ⟨ao, co, rfl, Hown.out, hnw⟩
end Go.Proofs.YtfigpbcmnlkdjaaDoor
