/-
  The documentation's WriterAllows over a run of calls.
-/
import Derived.Test.YtegbfhfmbjdjiaaDoorNext
import Derived.Test.YtegbfhfmbjdjiaaDoorGot
import Derived.Test.YtegbfhfmbjdjiaaDoorSame
namespace Go.Proofs.YtegbfhfmbjdjiaaDoor
open Go.RowKit

theorem Flow.next_room (f : Flow) (c : CallR) (o : OutW) : (f.next c o).room = f.room := by
  unfold Flow.next
  repeat' split
  all_goals first | rfl | (unfold Flow.flush; split <;> rfl)
theorem Flow.next_fl (f : Flow) (c : CallR) (o : OutW) (T : Nat) (h1 : f.flushed ≤ T) (h2 : f.all.length ≤ T) : (f.next c o).flushed ≤ T := by
  unfold Flow.next
  repeat' split
  all_goals first | exact h1 | (unfold Flow.flush; split <;> first | exact h1 | exact h2)

/-- What holds at the head of each round. -/
def WaInv (w : World) (fb : Nat) (m : Nat → WW) (cs : List CallR) (fin : WW) (r1 r2 : Int) (size : Nat) (g : Nat) (vr vi : Value) (wr : World) : Prop :=
  ∃ (k rho : Nat) (f : Flow) (v : Value), k ≤ cs.length ∧ vi = .int .i64 k ∧ vr = .int .i64 rho ∧ rho ≤ k ∧ AState r1 r2 size fin rho f (m k) ∧ FlowAt wr fb v f fb ∧ f.all.length ≤ callsW (cs.take k) ∧ f.flushed ≤ callsW (cs.take k) ∧ f.room ≤ 9223372036854775807 ∧
    wr.cell? ⟨w.heap.size + 1, 0, none⟩ = some (.int .i64 r2) ∧ New w wr ∧ g = cs.length - k

theorem FlowDone.mem {w0 w w' : World} {fb : Nat} {v : Value} {f0 f : Flow} {e : Ending} (h0 : FlowAt w fb v f0 fb) (h : FlowDone w fb v f fb e w') (hn : New w0 w) (hfb : w0.heap.size ≤ fb) : New w0 w' ∧ ∀ i, i < fb → ¬ flowSet fb v i := by
  obtain ⟨_, v', _, _, hk⟩ := h
  have hv : ∀ i, flowSet fb v i → fb ≤ i := fun i hi => by
    rcases hi with e | e
    · omega
    · exact (h0.own.lt i e).1
  exact ⟨hn.trans hk (fun i hi e => by have := hv i e; omega), fun i hi e => by have := hv i e; omega⟩

set_option maxRecDepth 100000 in
set_option maxHeartbeats 4000000 in
theorem allows_ok (w : World) (size : Nat) (r1 r2 : Int) (vcs vo v1 v2 : Value) (cs : List CallR) (outs : List OutW) (fin : WW) (Bo : Nat) (hcs : CallsAt w vcs cs) (ho : w.ownsRow Bo 41 5 vo outs.length (outsV outs)) (hv1 : BytesAt w v1 fin.got1) (hv2 : BytesAt w v2 fin.got2)
    (hruns : (WW.start r1 r2 size).Runs cs outs fin) (hs : 1 ≤ size ∧ size ≤ 32767) (a1 : -9223372036854775807 ≤ r1 + 1) (a2 : r1 ≤ 9223372036854775807) (b1 : -9223372036854775807 ≤ r2 + 1) (b2 : r2 ≤ 9223372036854775807) (hM : callsW cs ≤ 1099511627776) (hL : cs.length ≤ 1099511627776) :
    Calls Tryd.prog 7 #[.int .i64 size, .agg #[.int .i64 r1], .agg #[.int .i64 r2], vcs, vo, v1, v2] w fun e w' => e = .returned (.bool true) ∧ New w w' := by
  have hlen := hruns.length
  obtain ⟨m, m0, m1, hm⟩ := hruns.states
  obtain ⟨av, cv, bvs0, rfl, -⟩ := id hcs
  rw [hlen] at ho
  obtain ⟨oa, oc, rfl⟩ := ownsRow_slice ho
  obtain ⟨xa, xc, rfl, -⟩ := id hv1
  obtain ⟨ya, yc, rfl, -⟩ := id hv2
  rw [bytesV_length] at hv1 ⊢
  rw [bytesV_length] at hv2 ⊢
  generalize hx1 : fin.got1.length = l1 at hv1 ⊢
  generalize hx2 : fin.got2.length = l2 at hv2 ⊢
  have hn2 : New w ((w.alloc (.cells #[.int .i64 r1] 32)).alloc (.cells #[.int .i64 r2] 32)) := ((Keep.refl _ w).alloc _).alloc _
  have HN2 := Lib.hid hn2
  have HCS := Lib.hid hcs
  have HO := Lib.hid ho
  have HV1 := Lib.hid hv1
  have HV2 := Lib.hid hv2
  have Hm0 := Lib.hid m0
  have Hm1 := Lib.hid m1
  have Hm := Lib.hid hm
  have Hlen := Lib.hid hlen
  have Hx1 := Lib.hid hx1
  have Hx2 := Lib.hid hx2
  obtain ⟨R1, hR1⟩ : ∃ R1, r1.toNat = R1 := ⟨_, rfl⟩
  obtain ⟨R2, hR2⟩ : ∃ R2, r2.toNat = R2 := ⟨_, rfl⟩
  have HR1 := Lib.hid hR1
  have HR2 := Lib.hid hR2
  have hR1b : R1 ≤ 9223372036854775807 := by omega
  have hR2b : R2 ≤ 9223372036854775807 := by omega
  have hz2 : ((w.alloc (.cells #[.int .i64 r1] 32)).alloc (.cells #[.int .i64 r2] 32)).heap.size = w.heap.size + 1 + 1 := by simp
  have hcb : ((w.alloc (.cells #[.int .i64 r1] 32)).alloc (.cells #[.int .i64 r2] 32)).cell? ⟨w.heap.size + 1, 0, none⟩ = some (.int .i64 r2) := by
    have h8 := cell_new (w.alloc (.cells #[.int .i64 r1] 32)) #[.int .i64 r2] 32 0
    have hz : (w.alloc (.cells #[.int .i64 r1] 32)).heap.size = w.heap.size + 1 := by simp
    rw [hz] at h8
    exact h8.trans rfl
  have Hcb := Lib.hid hcb
  have Hz2 := Lib.hid hz2
  clear hcs ho hv1 hv2 hruns m0 m1 hm hlen hx1 hx2 hn2 hR1 hR2 hcb hz2
  go_enter Tryd.func7, Tryd.ntmps7
  go_wp2_with fail
  refine (rooted_any _ r1 R1 HR1.out a1 a2).mono ?_
  rintro e w1 ⟨rfl, hn1⟩
  have hn01 := HN2.out.then hn1
  have hfb : w.heap.size + 2 ≤ w1.heap.size := by have := hn1.size; have := Hz2.out; omega
  have HW0 : Hid (WaInv w w1.heap.size m cs fin r1 r2 size cs.length (.int .i64 0) (.int .i64 0) (w1.alloc (.cells #[.int .i64 R1, .slice none 0 0, .bool false, .int .i64 0] 52))) := by
    refine ⟨0, 0, Flow.root r1, .slice none 0 0, Nat.zero_le _, rfl, rfl, Nat.le_refl _, .inl ⟨rfl, ?_, ?_, ?_⟩, ⟨?_, World.ownsRow_nil _ _ _ _, (fun e => by cases e), Nat.le_refl _⟩, Nat.zero_le _, Nat.zero_le _, by show r1.toNat ≤ _; omega, ?_, hn01.alloc _, rfl⟩
    · rw [Hm0.out]; rfl
    · rw [Hm0.out]; rfl
    · rw [Hm0.out]; exact FlowOk.root r1 size hs
    · rw [heap_alloc_new]; simp [Flow.root, HR1.out]
    · exact New.cellAt (hn1.alloc _) Hcb.out
  obtain ⟨fb, hfbe⟩ : ∃ fb, w1.heap.size = fb := ⟨_, rfl⟩
  rw [hfbe] at hfb HW0
  have Hfbe := Lib.hid hfbe
  clear hn1 hn01 hfbe
  go_wp2_with fail
  rw [Hfbe.out]
  go_loopg [16, 28, 17, 18] cs.length (fun g vr vi x17 x18 wr => WaInv w fb m cs fin r1 r2 size g vr vi wr)
  case atStart => exact HW0.out
  case round =>
    obtain ⟨k, rho, f, v, hk, rfl, rfl, hrk, hst, hfl, hal, hfd, hfr, hbx, hnw, rfl⟩ := hrel
    by_cases hlt : k < cs.length
    · obtain ⟨y, hy⟩ : ∃ y, cs[k]? = some y := ⟨_, List.getElem?_eq_getElem hlt⟩
      obtain ⟨o, hou⟩ : ∃ o, outs[k]? = some o := ⟨_, List.getElem?_eq_getElem (by rw [Hlen.out]; exact hlt)⟩
      have hdo := Hm.out k y o hy hou
      obtain ⟨bc, ocl, bv, rfl, hbv, hcell⟩ := (HCS.out.new hnw).at hy
      obtain ⟨g1, d1, e1, -, r4⟩ := outs_at (by rw [Hlen.out]; exact ownsRow_keep HO.out hnw (fun _ _ f => f)) hou
      rw [Hlen.out] at e1
      simp only [Value.slice.injEq] at e1
      obtain ⟨rfl, -, rfl⟩ := e1
      obtain ⟨htk1, htk2⟩ := callsW_take_succ hy
      have htle := callsW_take cs (k + 1)
      have Htk2 := Lib.hid htk2
      obtain ⟨kd, cn, cd, cb⟩ := y
      obtain ⟨on, oe⟩ := o
      have e0 := hcell 0 (.int .i64 kd) rfl
      have e1 := hcell 1 (.int .i64 cn) rfl
      have e2 := hcell 2 (.int .u8 (cd.toNat : Int)) rfl
      have e3 := hcell 3 bv rfl
      rw [show ocl + (k * 4 + 0) = ocl + k * 4 by omega] at e0
      rw [show ocl + (k * 4 + 1) = ocl + k * 4 + 1 by omega] at e1
      rw [show ocl + (k * 4 + 2) = ocl + k * 4 + 2 by omega] at e2
      rw [show ocl + (k * 4 + 3) = ocl + k * 4 + 3 by omega] at e3
      obtain ⟨ab, cbv, rfl, -⟩ := id hbv
      obtain ⟨pn, hpn⟩ : ∃ pn, (bytesV (CallR.mk kd cn cd cb).bytes).length = pn := ⟨_, rfl⟩
      rw [hpn] at hbv e3
      have hlt' : (k : Int) < cs.length := by omega
      have hk0 : (0 : Int) ≤ k := by omega
      have hna : New wr (wr.alloc (.cells #[.int .i64 kd, .int .i64 cn, .int .u8 (cd.toNat : Int), .slice ab pn cbv] 37)) := (Keep.refl _ _).alloc _
      have hfbw : fb < wr.heap.size := (Array.getElem?_eq_some_iff.1 hfl.cells).1
      have HFl := Lib.hid hfl
      have HFa := Lib.hid (hfl.keep hna (fun f => f) (fun _ _ f => f))
      have Hdo := Lib.hid hdo
      have Hst := Lib.hid hst
      have Hnw := Lib.hid hnw
      have Hna := Lib.hid (hnw.then hna)
      have Hal := Lib.hid hal
      have Hfd := Lib.hid hfd
      have hbxA := New.cellAt hna hbx
      have HbxA := Lib.hid hbxA
      have Hy := Lib.hid hy
      have Hou := Lib.hid hou
      have halb : f.all.length ≤ 1099511627776 := by have := callsW_take cs k; omega
      by_cases k7 : kd = 7
      · subst k7
        clear hcell r4 hdo hst hnw hna hal hfd hbv hpn htk1 htk2 htle hfl hy hou hbx
        have hn7 : ((7 : Int) == 7) = true := rfl
        by_cases hr0 : rho = 0
        · subst hr0
          obtain ⟨s1, s2, s3⟩ := Hst.out.first
          have hg1 := reset_got1 Hlen.out Hm.out Hy.out Hou.out rfl s1
          rw [Hm1.out] at hg1
          have HG : Hid (GotOk f size fin.got1) := by show GotOk _ _ _; rw [hg1]; exact s3.gotOk
          have HV1a : Hid (BytesAt (wr.alloc (.cells #[.int .i64 7, .int .i64 cn, .int .u8 (cd.toNat : Int), .slice ab pn cbv] 37)) (.slice xa l1 xc) fin.got1) := HV1.out.new Hna.out
          clear s1 s2 s3 hg1
          go_wp2_with fail
          refine (reset_ok _ fb v f fb _ fin.got1 size HFa.out HV1a.out HG.out hs.2 (by omega) hfr).mono ?_
          rintro e w2 ⟨rfl, hn2⟩
          have q2 := New.cellAt hn2 HbxA.out
          have HN := Lib.hid (Hna.out.then hn2)
          have HF2 := Lib.hid (HFa.out.keep hn2 (fun f => f) (fun _ _ f => f))
          clear hn2
          go_wp2_with fail
          refine (rooted_any _ r2 R2 HR2.out b1 b2).mono ?_
          rintro e w3 ⟨rfl, hn3⟩
          have q3 := New.cellAt hn3 q2
          have HF3 := HF2.out.keep hn3 (fun f => f) (fun _ _ f => f)
          have h0 := HF3.cells
          have c0 := cell_of (o := 0) h0 rfl
          have c1 := cell_of (o := 1) h0 rfl
          have c2 := cell_of (o := 2) h0 rfl
          have c3 := cell_of (o := 3) h0 rfl
          have f0 := frozen_of (o := 0) h0
          have f1 := frozen_of (o := 1) h0
          have f2 := frozen_of (o := 2) h0
          have f3 := frozen_of (o := 3) h0
          have H0 := Lib.hid h0
          have HN3 := Lib.hid (HN.out.then hn3)
          have Hq3 := Lib.hid q3
          clear HF3 h0 hn3 q2 q3
          go_wp2
          go_roundg (cs.length - (k + 1))
          case measure => omega
          case rel =>
            have hkk : Keep (fun i => i = fb) w3 _ := (((((Keep.refl (fun i => i = fb) w3).set1 0 (.int .i64 R2)).set1 1 (.slice none 0 0)).set1 2 (.bool false)).set1 3 (.int .i64 0))
            refine ⟨k + 1, 1, Flow.root r2, .slice none 0 0, hlt, by go_num, by go_num, by omega, AState.reset hs Hst.out Hdo.out rfl, ⟨?_, World.ownsRow_nil _ _ _ _, (fun e => by cases e), Nat.le_refl _⟩, Nat.zero_le _, Nat.zero_le _, by show r2.toNat ≤ _; omega, hkk.cellAt Hq3.out (fun e => by simp only at e; omega), HN3.out.trans hkk (fun i hi e => by omega), rfl⟩
            refine (heap_set (heap_set (heap_set (heap_set H0.out _) _) _) _).trans ?_
            simp [Flow.root, HR2.out]
        · have hr1 : ¬ (rho : Int) = 0 := by omega
          have hr2 : ((rho : Int) == 0) = false := by simp; omega
          go_wp2_with fail
          refine (rooted_any _ r2 R2 HR2.out b1 b2).mono ?_
          rintro e w3 ⟨rfl, hn3⟩
          have q3 := New.cellAt hn3 HbxA.out
          have HF3 := HFa.out.keep hn3 (fun f => f) (fun _ _ f => f)
          have h0 := HF3.cells
          have c0 := cell_of (o := 0) h0 rfl
          have c1 := cell_of (o := 1) h0 rfl
          have c2 := cell_of (o := 2) h0 rfl
          have c3 := cell_of (o := 3) h0 rfl
          have f0 := frozen_of (o := 0) h0
          have f1 := frozen_of (o := 1) h0
          have f2 := frozen_of (o := 2) h0
          have f3 := frozen_of (o := 3) h0
          have H0 := Lib.hid h0
          have HN3 := Lib.hid (Hna.out.then hn3)
          have Hq3 := Lib.hid q3
          clear HF3 h0 hn3 q3
          go_wp2
          go_roundg (cs.length - (k + 1))
          case measure => omega
          case rel =>
            have hkk : Keep (fun i => i = fb) w3 _ := (((((Keep.refl (fun i => i = fb) w3).set1 0 (.int .i64 R2)).set1 1 (.slice none 0 0)).set1 2 (.bool false)).set1 3 (.int .i64 0))
            refine ⟨k + 1, rho + 1, Flow.root r2, .slice none 0 0, hlt, by go_num, by go_num, by omega, AState.reset hs Hst.out Hdo.out rfl, ⟨?_, World.ownsRow_nil _ _ _ _, (fun e => by cases e), Nat.le_refl _⟩, Nat.zero_le _, Nat.zero_le _, by show r2.toNat ≤ _; omega, hkk.cellAt Hq3.out (fun e => by simp only at e; omega), HN3.out.trans hkk (fun i hi e => by omega), rfl⟩
            refine (heap_set (heap_set (heap_set (heap_set H0.out _) _) _) _).trans ?_
            simp [Flow.root, HR2.out]
      · have k7b : (kd == 7) = false := by simp; omega
        by_cases hr1 : 1 < rho
        · have hr2 : (1 : Int) < rho := by omega
          have Htle := Lib.hid htk2
          clear hcell r4 hdo hst hnw hna hal hfd hbv hpn htk1 htk2 htle hfl hy hou hbx
          go_wp2
          go_roundg (cs.length - (k + 1))
          case measure => omega
          case rel =>
            have h9 := Htle.out
            have h10 := Hal.out
            have h11 := Hfd.out
            exact ⟨k + 1, rho, f, v, hlt, by go_num, rfl, by omega, AState.skip Hst.out Hdo.out (by omega), HFa.out, by omega, by omega, hfr, HbxA.out, Hna.out, rfl⟩
        · have hr2 : ¬ (1 : Int) < rho := by omega
          obtain ⟨N, hst'⟩ := AState.next Hst.out Hdo.out k7 (by omega)
          have HN := Lib.hid N
          have Hst' := Lib.hid hst'
          have s0 := r4 0 (.slice none 0 0) rfl
          have s1 := r4 1 (.int .i64 on) rfl
          have s2 := r4 2 (.int .i32 0) rfl
          have s3 := r4 3 (.bool false) rfl
          have s4 := r4 4 (.int .i64 oe) rfl
          rw [Nat.add_zero] at s0
          have z0 := New.cellAt hna s0
          have z1 := New.cellAt hna s1
          have z2 := New.cellAt hna s2
          have z3 := New.cellAt hna s3
          have z4 := New.cellAt hna s4
          have x0 := (cell_new wr #[.int .i64 kd, .int .i64 cn, .int .u8 (cd.toNat : Int), .slice ab pn cbv] 37 0).trans (show _ = some (Value.int .i64 kd) from rfl)
          have x1 := (cell_new wr #[.int .i64 kd, .int .i64 cn, .int .u8 (cd.toNat : Int), .slice ab pn cbv] 37 1).trans (show _ = some (Value.int .i64 cn) from rfl)
          have x2 := (cell_new wr #[.int .i64 kd, .int .i64 cn, .int .u8 (cd.toNat : Int), .slice ab pn cbv] 37 2).trans (show _ = some (Value.int .u8 (cd.toNat : Int)) from rfl)
          have x3 := (cell_new wr #[.int .i64 kd, .int .i64 cn, .int .u8 (cd.toNat : Int), .slice ab pn cbv] 37 3).trans (show _ = some (Value.slice ab pn cbv) from rfl)
          have hg1lt : g1 < w.heap.size := by have h8 := HO.out.lt g1 (by simp [Value.ownBlock]); omega
          have hvlt : ∀ i, v.ownBlock = some i → fb ≤ i ∧ i < wr.heap.size := fun i hi => hfl.own.lt i hi
          have HS := Lib.hid (fun (w'' : World) (r : Ending) (hd : FlowDone (wr.alloc (.cells #[.int .i64 kd, .int .i64 cn, .int .u8 (cd.toNat : Int), .slice ab pn cbv] 37)).drew fb v (f.next ⟨kd, cn, cd, cb⟩ ⟨on, oe⟩) fb r w'') =>
            (show w''.cell? ⟨wr.heap.size, 0, none⟩ = some (.int .i64 kd) ∧ w''.cell? ⟨wr.heap.size, 1, none⟩ = some (.int .i64 cn) ∧ w''.cell? ⟨wr.heap.size, 2, none⟩ = some (.int .u8 (cd.toNat : Int)) ∧ w''.cell? ⟨wr.heap.size, 3, none⟩ = some (.slice ab pn cbv) ∧ w''.cell? ⟨g1, k * 5, none⟩ = some (.slice none 0 0) ∧ w''.cell? ⟨g1, k * 5 + 1, none⟩ = some (.int .i64 on) ∧ w''.cell? ⟨g1, k * 5 + 2, none⟩ = some (.int .i32 0) ∧ w''.cell? ⟨g1, k * 5 + 3, none⟩ = some (.bool false) ∧ w''.cell? ⟨g1, k * 5 + 4, none⟩ = some (.int .i64 oe) from by
              obtain ⟨_, _, _, _, hk⟩ := hd
              have n0 : ¬ flowSet fb v wr.heap.size := fun e => by
                rcases e with e | e
                · omega
                · have := (hvlt _ e).2; omega
              have n1 : ¬ flowSet fb v g1 := fun e => by
                rcases e with e | e
                · omega
                · have := (hvlt _ e).1; omega
              exact ⟨hk.cellAt x0 n0, hk.cellAt x1 n0, hk.cellAt x2 n0, hk.cellAt x3 n0, hk.cellAt z0 n1, hk.cellAt z1 n1, hk.cellAt z2 n1, hk.cellAt z3 n1, hk.cellAt z4 n1⟩))
          have HBv : Hid (BytesAt (wr.alloc (.cells #[.int .i64 kd, .int .i64 cn, .int .u8 (cd.toNat : Int), .slice ab pn cbv] 37)).drew (.slice ab pn cbv) cb) := BytesAt.new hbv hna.drew
          have HFd : Hid (FlowAt (wr.alloc (.cells #[.int .i64 kd, .int .i64 cn, .int .u8 (cd.toNat : Int), .slice ab pn cbv] 37)).drew fb v f fb) := ⟨HFa.out.cells, HFa.out.own, HFa.out.ne, HFa.out.le⟩
          have Hlen2 : Hid (f.all.length + (cb.length + 4) ≤ 140737488355328) := by
            have h9 := Htk2.out
            try simp only at h9
            show _ ≤ _
            omega
          have Hffd : Hid (f.flushed ≤ 140737488355328) := by show _ ≤ _; have := callsW_take cs k; omega
          have Hn0 : Hid (∀ i, i < fb → ¬ flowSet fb v i) := fun i hi e => by
            rcases e with e | e
            · omega
            · have := (hvlt _ e).1; omega
          clear hcell r4 hdo hst hnw hna hal hfd hbv hpn htk1 htk2 htle hfl hy hou hbx N hst' hvlt s0 s1 s2 s3 s4
          go_wp2_with fail
          go_region_held3 (fun w'' => w''.cell? ⟨wr.heap.size, 0, none⟩ = some (.int .i64 kd) ∧ w''.cell? ⟨wr.heap.size, 1, none⟩ = some (.int .i64 cn) ∧ w''.cell? ⟨wr.heap.size, 2, none⟩ = some (.int .u8 (cd.toNat : Int)) ∧ w''.cell? ⟨wr.heap.size, 3, none⟩ = some (.slice ab pn cbv) ∧ w''.cell? ⟨g1, k * 5, none⟩ = some (.slice none 0 0) ∧ w''.cell? ⟨g1, k * 5 + 1, none⟩ = some (.int .i64 on) ∧ w''.cell? ⟨g1, k * 5 + 2, none⟩ = some (.int .i32 0) ∧ w''.cell? ⟨g1, k * 5 + 3, none⟩ = some (.bool false) ∧ w''.cell? ⟨g1, k * 5 + 4, none⟩ = some (.int .i64 oe))
            (first | exact ⟨x0, x1, x2, x3, z0, z1, z2, z3, z4⟩ | exact HS.out _ _ hd)
            (first | (go_at_call 17; (with_reducible refine (next_at _ fb v f fb size kd cn cd cb on oe _ HFd.out HBv.out HN.out hs.2 Hlen2.out hfr Hffd.out).mono ?_); rintro r w2 hd; have hd1 := hd.1; subst hd1))
          rename_i hh
          have hd2 := FlowDone.mem HFd.out hd (Hna.out.drew) (by omega)
          have HN2' := Lib.hid hd2.1
          obtain ⟨-, v', hF', -, hk'⟩ := hd
          have HF' := Lib.hid hF'
          have Hb' : Hid (w2.cell? ⟨w.heap.size + 1, 0, none⟩ = some (.int .i64 r2)) := hk'.cellAt HbxA.out (Hn0.out (w.heap.size + 1) (by omega))
          clear hh HS hd2 hF' hk'
          go_wp2
          go_roundg (cs.length - (k + 1))
          case measure => omega
          case rel =>
            have h9 := Htk2.out
            try simp only at h9
            have h10 := Hal.out
            have h11 := Hfd.out
            have h12 := Flow.next_len f ⟨kd, cn, cd, cb⟩ ⟨on, oe⟩
            try simp only at h12
            have h13 := Flow.next_fl f ⟨kd, cn, cd, cb⟩ ⟨on, oe⟩ _ h11 h10
            exact ⟨k + 1, rho, _, v', hlt, by go_num, rfl, by omega, Hst'.out, HF'.out, by omega, by omega, by rw [Flow.next_room]; exact hfr, Hb'.out, HN2'.out, rfl⟩
    · obtain rfl : k = cs.length := by omega
      have hnl : ¬ ((cs.length : Int) < cs.length) := by omega
      rw [Hm1.out] at hst
      have HFl := Lib.hid hfl
      have Hst := Lib.hid hst
      have Hnw := Lib.hid hnw
      have halb : f.all.length ≤ 140737488355328 := by have := callsW_take cs cs.length; omega
      have HV1r := Lib.hid (HV1.out.new hnw)
      have HV2r := Lib.hid (HV2.out.new hnw)
      clear hst hfl hnw hal hfd hbx hlt
      by_cases hr0 : rho = 0
      · subst hr0
        obtain ⟨s1, s2, s3⟩ := Hst.out.first
        have HG : Hid (GotOk f size fin.got1) := by show GotOk _ _ _; rw [show fin.got1 = fin.wr.snk.got by unfold WW.got1; rw [s1]; rfl]; exact s3.gotOk
        have hl2 : l2 = 0 := by rw [← Hx2.out, show fin.got2 = [] by unfold WW.got2; rw [s1, s2]; rfl]; rfl
        subst hl2
        clear s1 s2 s3
        go_wp2_with fail
        refine (got_ok _ fb v f fb _ fin.got1 size HFl.out HV1r.out HG.out hs.2 halb hfr).mono ?_
        rintro e w2 ⟨rfl, hn2⟩
        have HN := Lib.hid (Hnw.out.then hn2)
        clear hn2
        go_wp2
        go_ret
        exact ⟨rfl, HN.out⟩
      · by_cases hr1 : rho = 1
        · subst hr1
          obtain ⟨s1, s3⟩ := Hst.out.second
          have HG : Hid (GotOk f size fin.got2) := by show GotOk _ _ _; rw [show fin.got2 = fin.wr.snk.got by unfold WW.got2; rw [s1]; rfl]; exact s3.gotOk
          clear s1 s3 hr0
          go_wp2_with fail
          refine (got_ok _ fb v f fb _ fin.got2 size HFl.out HV2r.out HG.out hs.2 halb hfr).mono ?_
          rintro e w2 ⟨rfl, hn2⟩
          have HN := Lib.hid (Hnw.out.then hn2)
          clear hn2
          go_wp2
          go_ret
          exact ⟨rfl, HN.out⟩
        · have d0 : ¬ (rho : Int) = 0 := by omega
          have d1 : ¬ (rho : Int) = 1 := by omega
          have b0 : ((rho : Int) == 0) = false := by simp; omega
          have b1 : ((rho : Int) == 1) = false := by simp; omega
          go_wp2
          go_ret
          exact ⟨rfl, Hnw.out⟩
end Go.Proofs.YtegbfhfmbjdjiaaDoor
