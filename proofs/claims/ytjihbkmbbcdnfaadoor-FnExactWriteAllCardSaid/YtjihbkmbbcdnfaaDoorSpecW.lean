/-
  The walks of the reference's joined, own and WriteAll.
-/
import Derived.Test.YtjihbkmbbcdnfaaDoorJoined
namespace Go.Proofs.YtjihbkmbbcdnfaaDoor
open Go.RowKit

/-- own: the same bytes in a row of their own. -/
theorem specOwn_any (v : Value) (l : List UInt8) (w : World) (h : BytesAt w v l) (hb : l.length ≤ 140737488355328) :
    Calls Tryd.prog 34 #[v] w fun e w' => ∃ a' c', e = .returned (.slice a' l.length c') ∧ w'.ownsRow w.heap.size 5 1 (.slice a' l.length c') l.length (bytesV l) ∧ New w w' := by
  obtain ⟨a, c, rfl, h1, h2, h3, h4⟩ := h
  obtain ⟨i0, hi, hz0, hz1, hz2⟩ := info_parts infoByte
  have hlen := bytesV_length l
  have hone := Lib.hid (bytesV_one l)
  have HL := Lib.hid hlen
  cases a with
  | none =>
    have hc := h3 rfl
    have hl : l = [] := List.eq_nil_of_length_eq_zero (by omega)
    subst hl
    subst hc
    clear h4 h3 hlen
    go_enter Tryd.func34, Tryd.ntmps34
    go_wp2_with (at_builtin; refine wpList_append_own_none rfl _ _ 27 rfl w.heap.size 5 i0 1 Tryd.underlying27 hi _ 0 [] rfl (World.ownsRow_nil _ _ _ _) rfl ?_)
    go_ret
    exact ⟨none, 0, rfl, World.ownsRow_nil _ _ _ _, Keep.refl _ _⟩
  | some ad =>
    have H4 := Lib.hid (h4 ad rfl)
    clear h4 h3 hlen
    have hm : l.length ≤ maxLen := by unfold maxLen; omega
    go_enter Tryd.func34, Tryd.ntmps34
    go_wp2_with (at_builtin; refine wpList_append_own _ rfl _ _ 27 rfl w.heap.size 5 i0 (.int .u8 0) 1 1 Tryd.underlying27 hi hz0 hz1 hz2 rfl (by decide) _ 0 [] rfl (World.ownsRow_nil _ _ _ _) ad (bytesV l).length c (bytesV l) rfl (by simp) H4.out hone.out ?c1 ?c2 (Nat.le_refl _) ?_)
    case c1 => rw [HL.out]; omega
    case c2 => rw [HL.out]; omega
    intro v' w' hown hgrow _
    have hown' : w'.ownsRow w.heap.size 5 1 v' l.length (bytesV l) := by
      have := HL.out
      simpa [this] using hown
    obtain ⟨a', c', hv⟩ := ownsRow_slice hown'
    rw [hv] at hown' ⊢
    clear hown hv
    go_wp2
    go_ret
    exact ⟨a', c', rfl, hown', New.of_grown hgrow⟩

set_option maxRecDepth 100000 in
set_option maxHeartbeats 1000000 in
theorem specJoined (w : World) (v : Value) (ps : List (List UInt8)) (hv : PartsAt w v ps) (hall : (joined ps).length ≤ 140737488355328) (y : List UInt8) (hy : y = joined ps) :
    Calls Tryd.prog 33 #[v] w fun e w' => ∃ a' c', e = .returned (.slice a' y.length c') ∧ w'.ownsRow w.heap.size 5 1 (.slice a' y.length c') y.length (bytesV y) ∧ New w w' := by
  obtain ⟨pvs, hrow, hpl, hps⟩ := hv
  obtain ⟨a, c, rfl, p1, p2, p3, p4⟩ := id hrow
  rw [hpl] at p1 hrow ⊢
  obtain ⟨i0, hi, hz0, hz1, hz2⟩ := info_parts infoByte
  have HR := Lib.hid hrow
  have HPs := Lib.hid hps
  have Hpl := Lib.hid hpl
  have Hy := Lib.hid hy
  have hm : ps.length ≤ 9223372036854775807 := by unfold maxLen at p2; omega
  have H0 : Hid (JInv w ps ps.length (.slice none 0 0) (.int .i64 0) w) := ⟨0, none, 0, Nat.zero_le _, rfl, by simp [joined], by simpa [joined, bytesV] using World.ownsRow_nil w _ _ _, Keep.refl _ _, rfl⟩
  clear hrow hps hpl p2 p3 p4 hy
  go_enter Tryd.func33, Tryd.ntmps33
  go_wp2_with fail
  go_loopg [3, 8, 5] ps.length (fun g o i p wr => JInv w ps g o i wr)
  case atStart => exact H0.out
  case round =>
    obtain ⟨k, ao, co, hk, rfl, rfl, hown, hnw, rfl⟩ := hrel
    by_cases hlt : k < ps.length
    · obtain ⟨p, hp⟩ : ∃ p, ps[k]? = some p := ⟨_, List.getElem?_eq_getElem hlt⟩
      obtain ⟨u, hu⟩ : ∃ u, pvs[k]? = some u := ⟨_, List.getElem?_eq_getElem (by rw [Hpl.out]; exact hlt)⟩
      have hup := HPs.out k u p hu hp
      obtain ⟨ba, oa, rfl, hcell⟩ := RowAt.one HR.out (i := k) (by rw [Hpl.out]; exact hlt)
      obtain ⟨au, cu, rfl, _⟩ := id hup
      rw [bytesV_length] at hup hu
      have hc : wr.cell? ⟨ba, oa + k, none⟩ = some (.slice au p.length cu) := hnw.cellAt (by
        rw [hcell k (by rw [Hpl.out]; exact hlt)]
        have := List.getElem?_eq_some_iff.1 hu
        rw [this.2])
      have hjs := joined_take_succ ps k p hp
      have hjl := joined_take_le ps (k + 1)
      have hjl2 : (joined (ps.take k)).length + p.length ≤ 140737488355328 := by rw [hjs] at hjl; simp at hjl; omega
      obtain ⟨z, hz⟩ : ∃ z, z = joined (ps.take k) := ⟨_, rfl⟩
      rw [← hz] at hown hjs hjl2 ⊢
      have hpp := RowAt.parts (hup.new hnw)
      have Hown := Lib.hid hown
      have Hpp := Lib.hid hpp
      have Hjs := Lib.hid hjs
      have Hnw := Lib.hid hnw
      have Hpv := Lib.hid (bytesV_length p)
      have hlt' : (k : Int) < ps.length := by omega
      have hbase := hnw.size
      clear hup hjs hjl hcell hu hp hnw hown hpp hz
      go_wp2_with (at_builtin; refine wpList_append_row rfl _ _ 27 rfl w.heap.size 5 i0 (.int .u8 0) 1 1 Tryd.underlying27 hi hz0 hz1 hz2 rfl (by decide) _ z.length (bytesV z) rfl Hown.out au p.length cu (bytesV p) rfl Hpp.out.2.2.1 ?c1 Hpp.out.2.2.2 (bytesV_one _) ?c2 ?c3 hbase ?_)
      case c1 => rw [Hpv.out]; omega
      case c2 => unfold maxLen; omega
      case c3 => omega
      intro a3 c3 w3 ho3 hg3 hb3
      have H3 : Hid (JInv w ps (ps.length - (k + 1)) (.slice a3 (z.length + p.length) c3) (.int .i64 ((k + 1 : Nat) : Int)) w3) := by
        refine ⟨k + 1, a3, c3, hlt, rfl, ?_, ?_, ?_, rfl⟩
        · rw [Hjs.out]; simp
        · rw [Hjs.out, bytesV_append]; simpa using ho3
        · exact Hnw.out.trans ((Keep.refl (fun i => (Value.slice ao z.length co).ownBlock = some i) _).grown hg3 (fun i hi => .inl hi)) (fun i hi e => by have := (Hown.out.lt i e).1; omega)
      clear ho3 hg3 hb3
      go_wp2
      go_roundg (ps.length - (k + 1))
      case measure => omega
      case rel => exact H3.out
    · obtain rfl : k = ps.length := by omega
      rw [List.take_length, ← Hy.out] at hown ⊢
      have hnl : ¬ ((ps.length : Int) < ps.length) := by omega
      have Hown := Lib.hid hown
      clear hown hlt
      go_wp2
      go_ret
      exact ⟨ao, co, rfl, Hown.out, hnw⟩

set_option maxRecDepth 100000 in
set_option maxHeartbeats 1000000 in
theorem specWriteAll_any (w : World) (n room : Int) (v : Value) (ps : List (List UInt8)) (r1 : -9223372036854775807 ≤ room + 1) (r2 : room ≤ 9223372036854775807) (hv : PartsAt w v ps) (hall : (joined ps).length ≤ 140737488355328)
    (z : List UInt8) (hz : z = (joined ps).take room.toNat) (num : Int) (hnum : num = if room.toNat < (joined ps).length then 9 else 0) :
    Calls Tryd.prog 13 #[.int .i16 n, .agg #[.int .i64 room], v] w fun e w' => ∃ a' c', e = .returned (.tuple #[.slice a' z.length c', .int .i64 num]) ∧
      w'.ownsRow w.heap.size 5 1 (.slice a' z.length c') z.length (bytesV z) ∧ New w w' := by
  obtain ⟨y, hy⟩ : ∃ y, y = joined ps := ⟨_, rfl⟩
  rw [← hy] at hz hnum
  have hyl : y.length ≤ 140737488355328 := by rw [hy]; exact hall
  have hk0 : New w (w.alloc (.cells #[.int .i64 room] 30)) := (Keep.refl _ _).alloc _
  have HK0 := Lib.hid hk0
  have HV := Lib.hid (hv.new hk0)
  have Hy := Lib.hid hy
  have hsz : w.heap.size ≤ (w.alloc (.cells #[.int .i64 room] 30)).heap.size := hk0.size
  have q0 : (w.alloc (.cells #[.int .i64 room] 30)).cell? ⟨w.heap.size, 0, none⟩ = some (.int .i64 room) := cell_new _ _ _ _
  have Q0 := Lib.hid q0
  clear hv hy hk0 q0
  by_cases hle : (y.length : Int) ≤ max 0 room
  · have hzy : z = y := by rw [hz, List.take_of_length_le (by omega)]
    have hn0 : num = 0 := by rw [hnum, if_neg (by omega)]
    subst hzy hn0
    clear hz hnum
    have hd : (0 < room ∧ (z.length : Int) ≤ room) ∨ (¬ 0 < room ∧ z = []) := by
      by_cases h : 0 < room
      · left; omega
      · right; exact ⟨h, List.eq_nil_of_length_eq_zero (by omega)⟩
    have Hd := Lib.hid hd
    clear hd hle
    go_enter Tryd.func13, Tryd.ntmps13
    go_wp2_with fail
    refine (specJoined _ v ps HV.out hall z Hy.out).mono ?_
    rintro e w1 ⟨a1, c1, rfl, ho1, hn1⟩
    have hq1 := New.cellAt hn1 Q0.out
    have Hr1 : Hid (BytesAt w1 (.slice a1 z.length c1) z) := ownsRow_rowAt ho1
    have HN1 := Lib.hid (HK0.out.then hn1)
    clear ho1 hn1
    rcases Hd.out with ⟨h0, hlt0⟩ | ⟨h0, rfl⟩
    · go_wp2_with fail
      refine (specOwn_any _ z _ Hr1.out hyl).mono ?_
      rintro e w2 ⟨a2, c2, rfl, ho2, hn2⟩
      have Ho2 := Lib.hid ho2
      have HN2 := Lib.hid (HN1.out.then hn2)
      have hsz1 := HN1.out.size
      clear ho2 hn2
      go_wp2
      go_ret2
      exact ⟨a2, c2, rfl, ownsRow_lower Ho2.out hsz1, HN2.out⟩
    · go_wp2_with fail
      refine (specOwn_any _ [] _ Hr1.out hyl).mono ?_
      rintro e w2 ⟨a2, c2, rfl, ho2, hn2⟩
      have Ho2 := Lib.hid ho2
      have HN2 := Lib.hid (HN1.out.then hn2)
      have hsz1 := HN1.out.size
      clear ho2 hn2
      go_wp2
      go_ret2
      exact ⟨a2, c2, rfl, ownsRow_lower Ho2.out hsz1, HN2.out⟩
  · obtain ⟨k, hk⟩ : ∃ k : Nat, (k : Int) = max 0 room := ⟨(max 0 room).toNat, by omega⟩
    have hky : k ≤ y.length := by omega
    have hkr : room.toNat = k := by omega
    have hn9 : num = 9 := by rw [hnum, if_pos (by omega)]
    subst hn9
    have Hzy : Hid (z = y.take k) := by show _ = _; rw [hz, hkr]
    have hzl : z.length ≤ 140737488355328 := by rw [Hzy.out]; simp; omega
    have Hzk : Hid (z.length = k) := by show _ = _; rw [Hzy.out]; simp; omega
    have hd : (0 < room ∧ room < (y.length : Int)) ∨ (¬ 0 < room ∧ (0 : Int) < y.length) := by omega
    have Hd := Lib.hid hd
    clear hd hle hz hnum
    go_enter Tryd.func13, Tryd.ntmps13
    go_wp2_with fail
    refine (specJoined _ v ps HV.out hall y Hy.out).mono ?_
    rintro e w1 ⟨a1, c1, rfl, ho1, hn1⟩
    have hq1 := New.cellAt hn1 Q0.out
    have hr1 : BytesAt w1 (.slice a1 y.length c1) y := ownsRow_rowAt ho1
    have hyc : y.length ≤ c1 := by have := (RowAt.parts hr1).2.1; rw [bytesV_length] at this; exact this
    have hr1' : BytesAt w1 (.slice a1 k c1) z := by
      have := RowAt.upto hr1 (k := k) (by rw [bytesV_length]; exact hky)
      have e1 : (bytesV y).take k = bytesV z := by rw [Hzy.out]; simp [bytesV]
      rw [e1] at this
      exact this
    have Hr1 := Lib.hid hr1'
    have hsl := slice_upto (P := Tryd.prog) 27 5 Tryd.underlying27 sizeByte a1 y.length c1 k (by omega) .i64
    have HN1 := Lib.hid (HK0.out.then hn1)
    clear ho1 hn1 hr1 hr1'
    rcases Hd.out with ⟨h0, hlt0⟩ | ⟨h0, hlt0⟩
    · obtain rfl : room = k := by omega
      clear hkr hk
      go_wp2_with fail
      refine (specOwn_any _ z _ Hr1.out hzl).mono ?_
      rintro e w2 ⟨a2, c2, rfl, ho2, hn2⟩
      have Ho2 := Lib.hid ho2
      have HN2 := Lib.hid (HN1.out.then hn2)
      have hsz1 := HN1.out.size
      clear ho2 hn2
      go_wp2
      go_ret2
      exact ⟨a2, c2, rfl, ownsRow_lower Ho2.out hsz1, HN2.out⟩
    · obtain rfl : k = 0 := by omega
      have hyn : ¬ y = [] := fun e => by rw [e] at hlt0; simp at hlt0
      have hyz : ¬ y.length = 0 := by omega
      clear hkr hk
      have hsl0 : ∀ w, (Instr.slice 27 (.slice a1 y.length c1) none (some (.int .i64 0)) none).run Tryd.prog w = .ok (.slice a1 0 c1) w := hsl
      clear hsl
      go_wp2_with fail
      refine (specOwn_any _ z _ Hr1.out hzl).mono ?_
      rintro e w2 ⟨a2, c2, rfl, ho2, hn2⟩
      have Ho2 := Lib.hid ho2
      have HN2 := Lib.hid (HN1.out.then hn2)
      have hsz1 := HN1.out.size
      clear ho2 hn2
      go_wp2
      go_ret2
      exact ⟨a2, c2, rfl, ownsRow_lower Ho2.out hsz1, HN2.out⟩
end Go.Proofs.YtjihbkmbbcdnfaaDoor
