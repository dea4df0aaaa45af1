/-
  The walk of the law FnExactWriteAll.
-/
import Derived.Test.YtjihbkmbbcdnfaaDoorSpecW
import Derived.Test.YtjihbkmbbcdnfaaDoorEx4
namespace Go.Proofs.YtjihbkmbbcdnfaaDoor
open Go.RowKit

theorem num_ne (n : Int) : (n != n) = false := by simp

set_option maxRecDepth 100000 in
set_option maxHeartbeats 2000000 in
theorem walkFnExactWriteAll (w : World) (B0 : Nat) (ad : Nat → Addr) (hE : Errs w B0 ad) (hB0 : B0 ≤ w.heap.size) (n room : Int) (v : Value) (ps : List (List UInt8)) (h1 : -32768 ≤ n) (h2 : n ≤ 32767)
    (r1 : -9223372036854775807 ≤ room + 1) (r2 : room ≤ 9223372036854775807) (hv : PartsAt w v ps) :
    Calls Tryd.prog 3 #[.int .i16 n, .agg #[.int .i64 room], v] w fun e w' => e = .returned (.bool true) ∧ New w w' := by
  obtain ⟨left, hleft⟩ : ∃ left : Int, left = if (1048576 : Int) - ps.length < 0 then -1 else szParts ps (1048576 - ps.length) := ⟨_, rfl⟩
  have hk0 : New w (w.alloc (.cells #[.int .i64 room] 24)) := (Keep.refl _ _).alloc _
  have q0 : (w.alloc (.cells #[.int .i64 room] 24)).cell? ⟨w.heap.size, 0, none⟩ = some (.int .i64 room) := cell_new _ _ _ _
  have Q0 := Lib.hid q0
  have HK0 := Lib.hid hk0
  have HV := Lib.hid hv
  have HE := Lib.hid hE
  have Hleft := Lib.hid hleft
  clear hv hE hleft hk0 q0
  by_cases hneg : left < 0
  · go_enter Tryd.func3, Tryd.ntmps3
    go_wp2_with fail
    refine (szByteSS_any _ v ps (HV.out.new HK0.out) 1048576 (by omega) (by omega) left Hleft.out).mono ?_
    rintro e w1 ⟨rfl, hn1⟩
    have HN1 := Lib.hid (HK0.out.then hn1)
    clear hn1
    go_wp2
    go_ret
    exact ⟨rfl, HN1.out⟩
  · have hsz : ps.length ≤ 1048576 ∧ (joined ps).length ≤ 1048576 := by
      have h3 := Hleft.out
      by_cases h4 : (1048576 : Int) - ps.length < 0
      · rw [if_pos h4] at h3; omega
      · rw [if_neg h4] at h3
        have := szParts_joined ps _ (by rw [← h3]; omega)
        omega
    obtain ⟨hpsl, hall⟩ := hsz
    have hall' : (joined ps).length ≤ 140737488355328 := by omega
    obtain ⟨z, hz⟩ : ∃ z, z = (joined ps).take room.toNat := ⟨_, rfl⟩
    obtain ⟨num, hnum⟩ : ∃ num : Int, num = if room.toNat < (joined ps).length then 9 else 0 := ⟨_, rfl⟩
    have hzl : z.length ≤ 1048576 := by rw [hz]; simp; omega
    have hzl' : z.length ≤ 9223372036854775807 := by omega
    have hnn := num_ne num
    have Hz := Lib.hid hz
    have Hnum := Lib.hid hnum
    clear hz hnum
    go_enter Tryd.func3, Tryd.ntmps3
    go_wp2_with fail
    refine (szByteSS_any _ v ps (HV.out.new HK0.out) 1048576 (by omega) (by omega) left Hleft.out).mono ?_
    rintro e w1 ⟨rfl, hn1⟩
    have HN1 := Lib.hid (HK0.out.then hn1)
    have q1 := New.cellAt hn1 Q0.out
    have Q1 := Lib.hid q1
    clear hn1
    go_wp2_with fail
    refine (toSink_any _ room).mono ?_
    rintro e w2 ⟨rfl, hn2⟩
    have HN2 := Lib.hid (HN1.out.then hn2)
    have Q2 := Lib.hid (New.cellAt hn2 Q1.out)
    clear hn2 q1
    go_wp2_with fail
    refine (toByteSS_any _ v ps (HV.out.new HN2.out) hall' hpsl).mono ?_
    rintro e w3 ⟨rfl, us3, ho3, hp3, hn3⟩
    have HN3 := Lib.hid (HN2.out.then hn3)
    have Q3 := Lib.hid (New.cellAt hn3 Q2.out)
    have HP3 := Lib.hid (hp3.parts ho3)
    clear ho3 hp3 hn3
    go_wp2_with fail
    refine (specWriteAll_any _ n room _ ps r1 r2 HP3.out hall' z Hz.out num Hnum.out).mono ?_
    rintro e w4 ⟨a4, c4, rfl, ho4, hn4⟩
    have HN4 := Lib.hid (HN3.out.then hn4)
    have Q4 := Lib.hid (New.cellAt hn4 Q3.out)
    have HZ4 : Hid (BytesAt w4 (.slice a4 z.length c4) z) := ownsRow_rowAt ho4
    clear ho4 hn4
    go_wp2_with fail
    refine (toByteSS_any _ v ps (HV.out.new HN4.out) hall' hpsl).mono ?_
    rintro e w5 ⟨rfl, us5, ho5, hp5, hn5⟩
    have HN5 := Lib.hid (HN4.out.then hn5)
    have q5 := New.cellAt hn5 Q4.out
    have Q5 := Lib.hid q5
    have HZ5 := Lib.hid (HZ4.out.new hn5)
    have HO5 := Lib.hid ho5
    have HP5 := Lib.hid hp5
    have hb45 := hn5.size
    clear ho5 hp5 hn5
    go_wp2_with fail
    refine (toSink_any _ room).mono ?_
    rintro e w6 ⟨rfl, hn6⟩
    have HN6 := Lib.hid (HN5.out.then hn6)
    have Q6 := Lib.hid (New.cellAt hn6 Q5.out)
    have HZ6 := Lib.hid (HZ5.out.new hn6)
    have HO6 : Hid (w6.ownsRow w4.heap.size 27 1 (.slice (some ⟨w4.heap.size, 0, none⟩) ps.length ps.length) ps.length us5) := ownsRow_keep HO5.out hn6 (fun _ _ f => f)
    have HP6 := Lib.hid (HP5.out.keep hn6 (fun _ _ f => f))
    have HE6 := Lib.hid (HE.out.keep HN6.out (fun _ _ f => f))
    have hb6 : B0 ≤ w6.heap.size := by have := HN6.out.size; omega
    have hb56 := hn6.size
    clear hn6 q5
    go_wp2_with fail
    refine (writeAll_any _ B0 ad HE6.out hb6 n room _ ps h1 h2 r1 r2 (HP6.out.parts HO6.out) hall' z Hz.out num Hnum.out).mono ?_
    rintro e w7 ⟨a7, c7, rfl, ho7, hn7⟩
    have HN7 := Lib.hid (HN6.out.then hn7)
    have Q7 := Lib.hid (New.cellAt hn7 Q6.out)
    have HZ7 := Lib.hid (HZ6.out.new hn7)
    have HO7 : Hid (w7.ownsRow w4.heap.size 27 1 (.slice (some ⟨w4.heap.size, 0, none⟩) ps.length ps.length) ps.length us5) := ownsRow_keep HO6.out hn7 (fun _ _ f => f)
    have HP7 := Lib.hid (HP6.out.keep hn7 (fun _ _ f => f))
    have HG7 := Lib.hid ho7
    clear ho7 hn7
    go_wp2_with fail
    refine (eqByteS_gen _ _ _ z z (ownsRow_rowAt HG7.out) HZ7.out hzl' true (by simp)).mono ?_
    rintro e w8 ⟨rfl, hn8⟩
    have HN8 := Lib.hid (HN7.out.then hn8)
    have Q8 := Lib.hid (New.cellAt hn8 Q7.out)
    have HZ8 := Lib.hid (HZ7.out.new hn8)
    have HO8 : Hid (w8.ownsRow w4.heap.size 27 1 (.slice (some ⟨w4.heap.size, 0, none⟩) ps.length ps.length) ps.length us5) := ownsRow_keep HO7.out hn8 (fun _ _ f => f)
    have HP8 := Lib.hid (HP7.out.keep hn8 (fun _ _ f => f))
    have HG8 : Hid (w8.ownsRow w6.heap.size 5 1 (.slice a7 z.length c7) z.length (bytesV z)) := ownsRow_keep HG7.out hn8 (fun _ _ f => f)
    clear hn8
    go_wp2_with fail
    refine (toByteSS_any _ v ps (HV.out.new HN8.out) hall' hpsl).mono ?_
    rintro e w9 ⟨rfl, us9, ho9, hp9, hn9⟩
    have HN9 := Lib.hid (HN8.out.then hn9)
    have Q9 := Lib.hid (New.cellAt hn9 Q8.out)
    have HZ9 := Lib.hid (HZ8.out.new hn9)
    have HO9 : Hid (w9.ownsRow w4.heap.size 27 1 (.slice (some ⟨w4.heap.size, 0, none⟩) ps.length ps.length) ps.length us5) := ownsRow_keep HO8.out hn9 (fun _ _ f => f)
    have HP9 := Lib.hid (HP8.out.keep hn9 (fun _ _ f => f))
    have HG9 : Hid (w9.ownsRow w6.heap.size 5 1 (.slice a7 z.length c7) z.length (bytesV z)) := ownsRow_keep HG8.out hn9 (fun _ _ f => f)
    have HX9 := Lib.hid (hp9.parts ho9)
    clear ho9 hp9 hn9
    go_wp2_with fail
    refine (eqByteSS_same _ _ _ ps (HP9.out.parts HO9.out) HX9.out hall').mono ?_
    rintro e w10 ⟨rfl, hn10⟩
    have HN10 := Lib.hid (HN9.out.then hn10)
    have Q10 := Lib.hid (New.cellAt hn10 Q9.out)
    have HZ10 := Lib.hid (HZ9.out.new hn10)
    have HO10 : Hid (w10.ownsRow w4.heap.size 27 1 (.slice (some ⟨w4.heap.size, 0, none⟩) ps.length ps.length) ps.length us5) := ownsRow_keep HO9.out hn10 (fun _ _ f => f)
    have HP10 := Lib.hid (HP9.out.keep hn10 (fun _ _ f => f))
    have HG10 : Hid (w10.ownsRow w6.heap.size 5 1 (.slice a7 z.length c7) z.length (bytesV z)) := ownsRow_keep HG9.out hn10 (fun _ _ f => f)
    have hS5 : ∀ i, partsSet us5 i → w4.heap.size ≤ i ∧ i < w6.heap.size := fun i ⟨u, hu, e⟩ => by
      obtain ⟨j, hj⟩ := List.getElem?_of_mem hu
      obtain ⟨p, hp⟩ : ∃ p, ps[j]? = some p := ⟨_, List.getElem?_eq_getElem (by have := (List.getElem?_eq_some_iff.1 hj).1; rw [← HP6.out.len]; exact this)⟩
      obtain ⟨b, e1, e2, e3, _⟩ := HP6.out.row j u p hj hp
      rw [e1] at e
      have e4 : b = i := Option.some.inj e
      omega
    have HS5 := Lib.hid hS5
    have hw4 := HN4.out.size
    have hw6 := HN6.out.size
    clear hn10 hS5
    go_wp2_with fail
    refine (markByteSS_any _ w4.heap.size w4.heap.size 1 us5 ps HO10.out HP10.out hall' (by omega) hpsl).mono ?_
    rintro e w11 ⟨rfl, hk11⟩
    have HN11 : Hid (New w w11) := HN10.out.trans hk11 (fun i hi e => by have := (HS5.out i e).1; omega)
    have hZ4b : ∀ i, Value.inBlock (.slice a4 z.length c4) i → i < w4.heap.size := RowAt.lt HZ4.out
    have HZ11 : Hid (BytesAt w11 (.slice a4 z.length c4) z) := RowAt.keep HZ10.out hk11 (fun i hi e => by have := (HS5.out i e).1; have := hZ4b i hi; omega)
    have HG11 : Hid (w11.ownsRow w6.heap.size 5 1 (.slice a7 z.length c7) z.length (bytesV z)) := ownsRow_keep HG10.out hk11 (fun i hi e => by have := (HS5.out i e).2; have := (HG10.out.lt i hi).1; omega)
    have Q11 : Hid (w11.cell? ⟨w.heap.size, 0, none⟩ = some (.int .i64 room)) := hk11.cellAt Q10.out (fun e => by
      have h4 := (HS5.out _ e).1
      have h5 := World.block_lt_of_cell? w4 _ Q4.out
      simp only at h4 h5
      omega)
    have HV11 : Hid (PartsAt w11 v ps) := HV.out.new HN11.out
    have HE11 := Lib.hid (HE.out.keep HN11.out (fun _ _ f => f))
    have hb11 : B0 ≤ w11.heap.size := by have := HN11.out.size; omega
    clear hk11 hZ4b
    obtain ⟨t, ht⟩ : ∃ t : Nat, t = 1 + (joined ps).length := ⟨_, rfl⟩
    have htt : ¬ ((t : Int) < 0) := by omega
    rw [← ht]
    have Ht := Lib.hid ht
    clear ht
    go_wp2_with fail
    refine (eqByteS_gen _ _ _ z z (ownsRow_rowAt HG11.out) HZ11.out hzl' true (by simp)).mono ?_
    rintro e w12 ⟨rfl, hn12⟩
    have HN12 := Lib.hid (HN11.out.then hn12)
    have Q12 := Lib.hid (New.cellAt hn12 Q11.out)
    have HZ12 := Lib.hid (HZ11.out.new hn12)
    have HG12 : Hid (w12.ownsRow w6.heap.size 5 1 (.slice a7 z.length c7) z.length (bytesV z)) := ownsRow_keep HG11.out hn12 (fun _ _ f => f)
    clear hn12
    go_wp2_with fail
    refine (markByteS_any _ w6.heap.size a7 z.length c7 1 z rfl HG12.out (by omega)).mono ?_
    rintro e w13 ⟨rfl, ho13, hk13⟩
    have hg13 : ∀ i, (Value.slice a7 z.length c7).ownBlock = some i → w6.heap.size ≤ i := fun i hi => (HG12.out.lt i hi).1
    have HN13 : Hid (New w w13) := HN12.out.trans hk13 (fun i hi e => by have := hg13 i e; omega)
    have HZ13 : Hid (BytesAt w13 (.slice a4 z.length c4) z) := RowAt.keep HZ12.out hk13 (fun i hi e => by have := hg13 i e; have := RowAt.lt HZ6.out i hi; omega)
    have Q13 : Hid (w13.cell? ⟨w.heap.size, 0, none⟩ = some (.int .i64 room)) := hk13.cellAt Q12.out (fun e => by
      have h4 := hg13 _ e
      have h5 := World.block_lt_of_cell? w4 _ Q4.out
      simp only at h4 h5
      omega)
    have HM13 : Hid (BytesAt w13 (.slice a7 z.length c7) (marks 1 z.length)) := ownsRow_rowAt ho13
    obtain ⟨m, hm⟩ : ∃ m : Nat, m = 1 + z.length := ⟨_, rfl⟩
    have hmm := num_ne (m : Int)
    have hm0 : ¬ ((m : Int) < 0) := by omega
    rw [← hm]
    have Hm := Lib.hid hm
    clear ho13 hk13 hg13 hm
    go_wp2_with fail
    refine (heldByteS_any _ a7 z.length c7 1 HM13.out (by omega)).mono ?_
    rintro e w14 ⟨rfl, hn14⟩
    have HN14 := Lib.hid (HN13.out.then hn14)
    have HZ14 := Lib.hid (HZ13.out.new hn14)
    have q14 := New.cellAt hn14 Q13.out
    have Q14 := Lib.hid q14
    have HM14 := Lib.hid (HM13.out.new hn14)
    clear hn14
    rw [← Hm.out]
    go_wp2_with fail
    refine (toSink_any _ room).mono ?_
    rintro e w15 ⟨rfl, hn15⟩
    have HN15 := Lib.hid (HN14.out.then hn15)
    have HZ15 := Lib.hid (HZ14.out.new hn15)
    have HM15 := Lib.hid (HM14.out.new hn15)
    clear hn15 q14
    go_wp2_with fail
    refine (toByteSS_any _ v ps (HV.out.new HN15.out) hall' hpsl).mono ?_
    rintro e w16 ⟨rfl, us16, ho16, hp16, hn16⟩
    have HN16 := Lib.hid (HN15.out.then hn16)
    have HZ16 := Lib.hid (HZ15.out.new hn16)
    have HM16 := Lib.hid (HM15.out.new hn16)
    have HX16 := Lib.hid (hp16.parts ho16)
    have HE16 := Lib.hid (HE.out.keep HN16.out (fun _ _ f => f))
    have hb16 : B0 ≤ w16.heap.size := by have := HN16.out.size; omega
    clear ho16 hp16 hn16
    go_wp2_with fail
    refine (writeAll_any _ B0 ad HE16.out hb16 n room _ ps h1 h2 r1 r2 HX16.out hall' z Hz.out num Hnum.out).mono ?_
    rintro e w17 ⟨a17, c17, rfl, ho17, hn17⟩
    have HN17 := Lib.hid (HN16.out.then hn17)
    have HZ17 := Lib.hid (HZ16.out.new hn17)
    have HM17 := Lib.hid (HM16.out.new hn17)
    have HG17 : Hid (BytesAt w17 (.slice a17 z.length c17) z) := ownsRow_rowAt ho17
    clear ho17 hn17
    go_wp2_with fail
    refine (eqByteS_gen _ _ _ z z HG17.out HZ17.out hzl' true (by simp)).mono ?_
    rintro e w18 ⟨rfl, hn18⟩
    have HN18 := Lib.hid (HN17.out.then hn18)
    have HM18 := Lib.hid (HM17.out.new hn18)
    clear hn18
    go_wp2_with fail
    refine (heldByteS_any _ a7 z.length c7 1 HM18.out (by omega)).mono ?_
    rintro e w19 ⟨rfl, hn19⟩
    have HN19 := Lib.hid (HN18.out.then hn19)
    clear hn19
    rw [← Hm.out]
    go_wp2
    go_ret
    exact ⟨rfl, HN19.out⟩
end Go.Proofs.YtjihbkmbbcdnfaaDoor
