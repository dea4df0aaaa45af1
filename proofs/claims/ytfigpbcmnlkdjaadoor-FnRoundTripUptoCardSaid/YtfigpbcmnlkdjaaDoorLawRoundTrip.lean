/-
  The walks of the laws' own repeated and of the law FnRoundTrip.
-/
import Derived.Test.YtfigpbcmnlkdjaaDoorReadBT
import Derived.Test.YtfigpbcmnlkdjaaDoorJoined
namespace Go.Proofs.YtfigpbcmnlkdjaaDoor
open Go.RowKit

def RpInv (wA : World) (nb n : Nat) (d : UInt8) (g : Nat) (vi : Value) (wr : World) : Prop :=
  ∃ (k : Nat) (cs : Array Value), k ≤ n ∧ vi = .int .i64 k ∧ wr.heap[nb]? = some (.cells cs 5 (0, 0)) ∧ cs.size = n ∧ cs.toList.take k = bytesV (List.replicate k d) ∧ Keep (fun i => i = nb) wA wr ∧ g = n - k

theorem take_set {cs : List Value} {k : Nat} {v : Value} {x : List Value} (hk : k < cs.length) (h : cs.take k = x) : (cs.set k v).take (k + 1) = x ++ [v] := by
  rw [List.take_add_one, List.take_set_of_le (Nat.le_refl _), h]
  simp [hk]

set_option maxRecDepth 100000 in
set_option maxHeartbeats 1000000 in
theorem repeated_any (w : World) (d : UInt8) (n : Nat) (hn : n ≤ 4294967296) :
    Calls Tryd.prog 16 #[.int .u8 (d.toNat : Int), .int .i64 n] w fun e w' => ∃ a c, e = .returned (.slice a n c) ∧ BytesAt w' (.slice a n c) (List.replicate n d) ∧ New w w' := by
  have hmk := run_make_row' (P := Tryd.prog) 23 5 (.int .u8 0) 1 Tryd.underlying23 infoByte rfl .i64 .i64 n (by omega) (by omega) w
  have hdlt := d.toNat_lt
  have HnA : Hid (New w (w.alloc (.cells (madeCells #[.int .u8 0] n) 5))) := (Keep.refl _ _).alloc _
  have H0 : Hid (RpInv (w.alloc (.cells (madeCells #[.int .u8 0] n) 5)) w.heap.size n d n (.int .i64 0) (w.alloc (.cells (madeCells #[.int .u8 0] n) 5))) :=
    ⟨0, madeCells #[.int .u8 0] n, Nat.zero_le _, rfl, heap_alloc_new _ _, size_madeCells _ _, by simp [bytesV], Keep.refl _ _, rfl⟩
  go_enter Tryd.func16, Tryd.ntmps16
  go_wp2_with fail
  go_loopg [11, 6] n (fun g vi x6 wr => RpInv (w.alloc (.cells (madeCells #[.int .u8 0] n) 5)) w.heap.size n d g vi wr)
  case atStart => exact H0.out
  case round =>
    obtain ⟨k, cs, hk, rfl, hnb, hcs, hct, hkr, rfl⟩ := hrel
    by_cases hlt : k < n
    · obtain ⟨u, hu⟩ : ∃ u, cs[k]? = some u := ⟨_, Array.getElem?_eq_getElem (by omega)⟩
      have c0 : wr.cell? ⟨w.heap.size, k, none⟩ = some u := cell_of hnb hu
      have f0 : wr.frozen? ⟨w.heap.size, k, none⟩ = false := frozen_of hnb
      have hlt' : (k : Int) < n := by omega
      have H3 : Hid (RpInv (w.alloc (.cells (madeCells #[.int .u8 0] n) 5)) w.heap.size n d (n - (k + 1)) (.int .i64 ((k + 1 : Nat) : Int)) (wr.setCell ⟨w.heap.size, k, none⟩ (.int .u8 (d.toNat : Int)))) := by
        refine ⟨k + 1, cs.setIfInBounds k (.int .u8 (d.toNat : Int)), hlt, rfl, heap_set hnb _, by simp [hcs], ?_, hkr.set1 k _, rfl⟩
        rw [Array.toList_setIfInBounds, take_set (by simp [hcs]; exact hlt) hct, List.replicate_succ', bytesV_append]
        rfl
      clear hnb hcs hct hkr hu
      go_wp2
      go_roundg (n - (k + 1))
      case measure => omega
      case rel => exact H3.out
    · obtain rfl : k = n := by omega
      have hnl : ¬ ((k : Int) < k) := by omega
      have Hr : Hid (BytesAt wr (.slice (some ⟨w.heap.size, 0, none⟩) k k) (List.replicate k d)) := by
        refine bytes_at_cells (off := 0) ?_ (by simp) (Nat.le_refl _) (by unfold maxLen; omega)
        refine cells_of_block (cur := cs.toList) (by rw [hnb]) 0 _ ?_
        rw [List.drop_zero, bytesV_length, List.length_replicate]
        exact hct
      have Hkr := Lib.hid hkr
      clear hnb hcs hct hkr hlt
      go_wp2
      go_ret
      exact ⟨some ⟨w.heap.size, 0, none⟩, k, rfl, Hr.out, HnA.out.trans Hkr.out (fun i hi e => by omega)⟩

theorem repeated_at (w : World) (d : UInt8) (n : Nat) (hn : n ≤ 4294967296) (z : Int) (hz : z = n) :
    Calls Tryd.prog 16 #[.int .u8 (d.toNat : Int), .int .i64 z] w fun e w' => ∃ a c, e = .returned (.slice a n c) ∧ BytesAt w' (.slice a n c) (List.replicate n d) ∧ New w w' := by
  subst hz
  exact repeated_any w d n hn

/-- What holds at the head of each round of the law's own loop. -/
def BkInv (wC : World) (os : List (List UInt8 × Er)) (g : Nat) (vb vi : Value) (wr : World) : Prop :=
  ∃ (k : Nat) (a : Option Addr) (c : Nat), k ≤ os.length ∧ vi = .int .i64 k ∧ vb = .slice a (joined ((os.take k).map (·.1))).length c ∧ wr.ownsRow wC.heap.size 5 1 vb (joined ((os.take k).map (·.1))).length (bytesV (joined ((os.take k).map (·.1)))) ∧ New wC wr ∧ g = os.length - k

set_option maxRecDepth 100000 in
set_option maxHeartbeats 2000000 in
theorem walkFnRoundTrip (w : World) (B0 : Nat) (ad : Nat → Addr) (hE : Errs w B0 ad) (hB0 : B0 ≤ w.heap.size) (n m : Int) (v cv : Value) (ps : List (List UInt8)) (cuts : List Int) (d : UInt8) (h1 : -32768 ≤ n) (h2 : n ≤ 32767) (h3 : -32768 ≤ m) (h4 : m ≤ 32767)
    (hv : PartsAt w v ps) (hcv : IntsAt w cv cuts) (hall : (joined ps).length ≤ 1048576) (hcl : cuts.length ≤ 1048576) :
    Calls Tryd.prog 5 #[.int .i16 n, .int .i16 m, v, cv, .int .u8 (d.toNat : Int)] w fun e w' => e = .returned (.bool true) ∧ New w w' := by
  obtain ⟨y, hy⟩ : ∃ y, y = joined ps := ⟨_, rfl⟩
  have hyl : y.length ≤ 1048576 := by rw [hy]; exact hall
  obtain ⟨os, hos⟩ : ∃ os, (Rd.manyB (List.replicate (y.length + 1) d) (Rd.fresh (Src.start y cuts true true) (max 16 m).toNat)).2 = os := ⟨_, rfl⟩
  have hfit : (Rd.fresh (Src.start y cuts true true) (max 16 m).toNat).Fit := Rd.fresh_fit _ _ (Src.start_ok _ _ _ _) (by omega) (by omega)
  have htd : (Rd.fresh (Src.start y cuts true true) (max 16 m).toNat).todo = y := by simp [Rd.todo, Rd.cur, Rd.fresh, Rd.avail, Src.start, Src.nx]
  have hpl := Rd.manyB_all d y.length _ hfit (by rw [htd]; exact Nat.le_refl _)
  rw [hos, htd] at hpl
  have hol : os.length = y.length + 1 := by rw [← hos, Rd.manyB_length, List.length_replicate]
  obtain ⟨i0, hi, hz0, hz1, hz2⟩ := info_parts infoByte
  have HV := Lib.hid hv
  have HCv := Lib.hid hcv
  have HE := Lib.hid hE
  have Hy := Lib.hid hy
  have Hos := Lib.hid hos
  have Hpl := Lib.hid hpl
  have Hol := Lib.hid hol
  have Hz1 : Hid (y = (joined ps).take (y.length : Int).toNat) := by show _ = _; rw [← hy]; simp
  have Hn1 : Hid ((0 : Int) = if (y.length : Int).toNat < (joined ps).length then 9 else 0) := by show _ = _; rw [← hy]; simp
  clear hv hcv hE hy hos hpl hol hfit htd
  go_enter Tryd.func5, Tryd.ntmps5
  go_wp2_with fail
  refine (lawJoined _ v ps HV.out (by omega) y Hy.out).mono ?_
  rintro e w1 ⟨a1, c1, rfl, ho1, hn1⟩
  have Hr1 : Hid (BytesAt w1 (.slice a1 y.length c1) y) := ownsRow_rowAt ho1
  have HV1 := Lib.hid (HV.out.new hn1)
  have HE1 := Lib.hid (HE.out.keep hn1 (fun _ _ f => f))
  have HN1 := Lib.hid hn1
  have hB1 : B0 ≤ w1.heap.size := by have := hn1.size; omega
  clear ho1 hn1
  go_wp2_with fail
  refine (writeAll_any w1 B0 ad HE1.out hB1 n (y.length : Int) v ps h1 h2 (by omega) (by omega) HV1.out (by omega) y Hz1.out 0 Hn1.out).mono ?_
  rintro e w2 ⟨a2, c2, rfl, ho2, hn2⟩
  have Hr2 : Hid (BytesAt w2 (.slice a2 y.length c2) y) := ownsRow_rowAt ho2
  have HN2 := Lib.hid (HN1.out.then hn2)
  have HR12 := Lib.hid (Hr1.out.new hn2)
  have HC2 := Lib.hid (HCv.out.new (HN1.out.then hn2))
  clear ho2 hn2 
  go_wp2_with fail
  refine (source_any w2 _ cv 0 true y cuts Hr2.out HC2.out (by omega) (by omega)).mono ?_
  rintro e w3 ⟨dv', cv', rfl, hd3, hc3, hn3⟩
  have HN3 := Lib.hid (HN2.out.then hn3)
  have Hd3 := Lib.hid hd3
  have Hc3 := Lib.hid hc3
  have HR3 := Lib.hid (HR12.out.new hn3)
  obtain ⟨M, hM⟩ : ∃ M, y.length + 1 = M := ⟨_, rfl⟩
  have HM := Lib.hid hM
  have hMb : M ≤ 1048577 := by omega
  clear hd3 hc3 hn3 hM
  go_wp2_with fail
  refine (repeated_at w3 d M (by omega) _ (by have := HM.out; omega)).mono ?_
  rintro e w4 ⟨a4, c4, rfl, hr4, hn4⟩
  have HN4 := Lib.hid (HN3.out.then hn4)
  have Hr4 := Lib.hid hr4
  have HR4 := Lib.hid (HR3.out.new hn4)
  have Hd4 := Lib.hid (Hd3.out.new hn4)
  have Hc4 := Lib.hid (Hc3.out.new hn4)
  have HE4 := Lib.hid (HE.out.keep (HN3.out.then hn4) (fun _ _ f => f))
  have hB4 : B0 ≤ w4.heap.size := by have := (HN3.out.then hn4).size; omega
  clear hr4 hn4
  go_wp2_with fail
  refine (readBytesTo_any w4 B0 ad HE4.out hB4 m dv' cv' true y cuts a4 M c4 (List.replicate M d) Hd4.out Hc4.out Hr4.out (by simp) h3 h4 (by omega) (by omega) (by omega) os (by rw [← HM.out]; exact Hos.out)).mono ?_
  rintro e wC ⟨oa, oc, rfl, hob, hnC⟩
  obtain ⟨rs, o1, o2, o3⟩ := hob
  have hoM : os.length = M := by rw [Hol.out, HM.out]
  rw [hoM] at o1 o2
  have Ho1 := Lib.hid o1
  have Ho2 := Lib.hid o2
  have Ho3 := Lib.hid o3
  have HoM := Lib.hid hoM
  have HNC := Lib.hid (HN4.out.then hnC)
  have HRC := Lib.hid (HR4.out.new hnC)
  have H0 : Hid (BkInv wC os M (.slice none 0 0) (.int .i64 0) wC) := ⟨0, none, 0, Nat.zero_le _, rfl, by simp [joined], by simpa [joined, bytesV] using World.ownsRow_nil wC _ _ _, Keep.refl _ _, by rw [hoM]; rfl⟩
  have hoc : M ≤ oc := by
    obtain ⟨r9, hr9⟩ : ∃ r9, rs[0]? = some r9 := ⟨_, List.getElem?_eq_getElem (by have := HM.out; omega)⟩
    obtain ⟨g1, d1, e1, q1, _⟩ := outsR_at o1 o2 hr9
    simp only [Value.slice.injEq] at e1
    omega
  clear o1 o2 o3 hoM hnC
  go_wp2_with fail
  go_loopg [15, 43, 17] M (fun g vb vi x17 wr => BkInv wC os g vb vi wr)
  case atStart => exact H0.out
  case round =>
    obtain ⟨k, ba, bc, hk, rfl, rfl, hown, hnw, rfl⟩ := hrel
    rw [HoM.out] at hk
    by_cases hlt : k < M
    · obtain ⟨r, hr⟩ : ∃ r, rs[k]? = some r := ⟨_, List.getElem?_eq_getElem (by rw [Ho2.out]; exact hlt)⟩
      obtain ⟨o, ho⟩ : ∃ o, os[k]? = some o := ⟨_, List.getElem?_eq_getElem (by rw [HoM.out]; exact hlt)⟩
      obtain ⟨p1, p2, _⟩ := Ho3.out k r o hr ho
      obtain ⟨g1, d1, e1, q1, r1⟩ := outsR_at (ownsRow_keep Ho1.out hnw (fun _ _ f => f)) Ho2.out hr
      simp only [Value.slice.injEq] at e1
      obtain ⟨rfl, -, rfl⟩ := e1
      obtain ⟨rb, rn, rr, re⟩ := r
      obtain ⟨x, er⟩ := o
      simp only at p1 p2
      obtain ⟨xa, xc, rfl, _⟩ := id p1
      rw [bytesV_length] at p1 r1
      have s0 := r1 0 (.slice xa x.length xc) rfl
      have s1 := r1 1 (.int .i64 rn) rfl
      have s2 := r1 2 (.int .i32 rr) rfl
      have s3 := r1 3 (.bool false) rfl
      have s4 := r1 4 (.int .i64 re) rfl
      rw [Nat.add_zero] at s0
      have hjs : joined ((os.take (k + 1)).map (·.1)) = joined ((os.take k).map (·.1)) ++ x := by
        rw [List.take_add_one, ho]; simp [joined]
      have hjl : (joined ((os.take (k + 1)).map (·.1))).length ≤ (joined (os.map (·.1))).length := by
        have h9 := joined_take_le (os.map (·.1)) (k + 1)
        rw [← List.map_take] at h9
        exact h9
      rw [Hpl.out.1] at hjl
      obtain ⟨z, hz⟩ : ∃ z, z = joined ((os.take k).map (·.1)) := ⟨_, rfl⟩
      rw [← hz] at hown hjs ⊢
      rw [hjs, List.length_append] at hjl
      have hkA : New wr (wr.alloc (.cells #[.slice xa x.length xc, .int .i64 rn, .int .i32 rr, .bool false, .int .i64 re] 33)) := (Keep.refl _ _).alloc _
      have Hpp := Lib.hid (RowAt.parts ((p1.new hnw).new hkA))
      have HnA := Lib.hid (hnw.then hkA)
      have Hown := Lib.hid (ownsRow_keep hown hkA (fun _ _ f => f))
      have Hjs := Lib.hid hjs
      have Hxl : Hid ((bytesV x).length = x.length * 1) := by show _ = _; rw [bytesV_length, Nat.mul_one]
      have hlt' : (k : Int) < M := by omega
      have hbase := (hnw.then hkA).size
      have hm1 : z.length + x.length ≤ maxLen := by unfold maxLen; omega
      clear r1 hr ho p1 p2 hown hnw hjs hz hkA
      go_wp2_with (at_builtin; refine wpList_append_row rfl _ _ 23 rfl wC.heap.size 5 i0 (.int .u8 0) 1 1 Tryd.underlying23 hi hz0 hz1 hz2 rfl (by decide) _ z.length (bytesV z) rfl Hown.out xa x.length xc (bytesV x) rfl Hpp.out.2.2.1 Hxl.out Hpp.out.2.2.2 (bytesV_one _) hm1 (by omega) hbase ?_)
      intro a7 c7 w7 ho7 hg7 hb7
      have H7 : Hid (BkInv wC os (os.length - (k + 1)) (.slice a7 (z.length + x.length) c7) (.int .i64 ((k + 1 : Nat) : Int)) w7) := by
        refine ⟨k + 1, a7, c7, by rw [HoM.out]; exact hlt, rfl, ?_, ?_, ?_, rfl⟩
        · rw [Hjs.out]; simp
        · rw [Hjs.out, bytesV_append]; simpa using ho7
        · exact HnA.out.trans ((Keep.refl (fun i => (Value.slice ba z.length bc).ownBlock = some i) _).grown hg7 (fun i hi => .inl hi)) (fun i hi e => by have := (Hown.out.lt i e).1; omega)
      clear ho7 hg7 hb7
      go_wp2
      go_roundg (os.length - (k + 1))
      case measure => rw [HoM.out]; omega
      case rel => exact H7.out
    · obtain rfl : k = M := by omega
      have hnl : ¬ ((k : Int) < k) := by omega
      rw [show os.take k = os by rw [← HoM.out, List.take_length], Hpl.out.1] at hown ⊢
      have Hbk : Hid (BytesAt wr (.slice ba y.length bc) y) := ownsRow_rowAt hown
      have HRw := Lib.hid (HRC.out.new hnw)
      have HNw := Lib.hid (HNC.out.then hnw)
      have hylt : y.length < rs.length := by rw [Ho2.out, ← HM.out]; omega
      obtain ⟨r, hr⟩ : ∃ r, rs[y.length]? = some r := ⟨_, List.getElem?_eq_getElem hylt⟩
      obtain ⟨o, ho, hoe⟩ : ∃ o, os[y.length]? = some o ∧ o.2 = erEnds := by
        have h9 := Hpl.out.2
        rw [Option.map_eq_some_iff] at h9
        exact h9
      have hre := (Ho3.out y.length r o hr ho).2.1
      rw [hoe] at hre
      have Hcell : Hid (∀ w', New wr w' → ∃ g1 c1', (Value.slice oa k oc = .slice (some ⟨g1, 0, none⟩) k c1') ∧ w'.cell? ⟨g1, y.length * 5 + 4, none⟩ = some (.int .i64 1)) := fun w' hn' => by
        obtain ⟨g1, d1, e1, q1, r1⟩ := outsR_at (ownsRow_keep Ho1.out (hnw.then hn') (fun _ _ f => f)) Ho2.out hr
        refine ⟨g1, d1, e1, r1 4 _ ?_⟩
        have : r.err = 1 := hre
        simp [OutR.cells, this]
      have hkM : (y.length : Int) + 1 = k := by have := HM.out; omega
      have hky : (y.length : Int) < k := by omega
      clear hown hnw hr ho hre hylt hlt
      go_wp2_with fail
      refine (equal_any _ ba a1 bc c1 y y Hbk.out HRw.out (by omega) true (by simp)).mono ?_
      rintro e wD ⟨rfl, hnD⟩
      obtain ⟨g1, c1', e1, s4⟩ := Hcell.out wD hnD
      simp only [Value.slice.injEq] at e1
      obtain ⟨rfl, -, rfl⟩ := e1
      have HnD := Lib.hid (HNw.out.then hnD)
      clear hnD Hcell
      go_wp2
      go_ret
      exact ⟨rfl, HnD.out⟩

theorem walkFnRoundTrip2 (w : World) (B0 : Nat) (ad : Nat → Addr) (hE : Errs w B0 ad) (hB0 : B0 ≤ w.heap.size) (n m u : Int) (v cv : Value) (ps : List (List UInt8)) (cuts : List Int) (h1 : -32768 ≤ n) (h2 : n ≤ 32767) (h3 : -32768 ≤ m) (h4 : m ≤ 32767) (hu : 0 ≤ u ∧ u ≤ 255)
    (hv : PartsAt w v ps) (hcv : IntsAt w cv cuts) (hall : (joined ps).length ≤ 1048576 ∧ cuts.length ≤ 1048576) :
    Calls Tryd.prog 5 #[.int .i16 n, .int .i16 m, v, cv, .int .u8 u] w fun e w' => e = .returned (.bool true) ∧ New w w' := by
  obtain ⟨d, hd⟩ : ∃ d : UInt8, (d.toNat : Int) = u := ⟨UInt8.ofNat u.toNat, by simp; omega⟩
  subst hd
  exact walkFnRoundTrip w B0 ad hE hB0 n m v cv ps cuts d h1 h2 h3 h4 hv hcv hall.1 hall.2
end Go.Proofs.YtfigpbcmnlkdjaaDoor
