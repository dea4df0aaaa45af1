/-
  The walk of the law FnWriterAllowed.
-/
import Derived.Test.YtegbfhfmbjdjiaaDoorAllows
import Derived.Test.YtegbfhfmbjdjiaaDoorWSize
import Derived.Test.YtegbfhfmbjdjiaaDoorLawSticky
namespace Go.Proofs.YtegbfhfmbjdjiaaDoor
open Go.RowKit

set_option maxRecDepth 100000 in
set_option maxHeartbeats 4000000 in
theorem walkFnWriterAllowed (w : World) (B0 : Nat) (ad : Nat → Addr) (hE : Errs w B0 ad) (hB0 : B0 ≤ w.heap.size) (n room other : Int) (v1 v2 v3 : Value) (ks : List Int) (ps : List (List UInt8)) (rs : List Int) (h1 : -32768 ≤ n) (h2 : n ≤ 32767)
    (r1 : -9223372036854775807 ≤ room + 1) (r2 : room ≤ 9223372036854775807) (q1 : -9223372036854775807 ≤ other + 1) (q2 : other ≤ 9223372036854775807) (hv1 : IntsAt w v1 ks ∧ ∀ z ∈ ks, -9223372036854775808 ≤ z ∧ z ≤ 9223372036854775807) (hv2 : PartsAt w v2 ps) (hv3 : IntsAt w v3 rs ∧ ∀ z ∈ rs, -9223372036854775808 ≤ z ∧ z ≤ 9223372036854775807)
    (hall : ks.length + ((joined ps).length + ps.length) + rs.length ≤ 1048576) :
    Calls Tryd.prog 3 #[.int .i16 n, v1, v2, v3, .int .i64 room, .int .i64 other] w fun e w' => e = .returned (.bool true) ∧ New w w' := by
  obtain ⟨hv1, -⟩ := hv1
  obtain ⟨hv3, -⟩ := hv3
  obtain ⟨a1, c1, rfl, m1⟩ := hv1.len
  obtain ⟨a2, c2, rfl, m2⟩ := hv2.len
  obtain ⟨a3, c3, rfl, m3⟩ := hv3.len
  have HV1 := Lib.hid hv1
  have HV2 := Lib.hid hv2
  have HV3 := Lib.hid hv3
  have HE := Lib.hid hE
  have hwb := wsize_bounds n h2
  obtain ⟨zs, hzs⟩ : ∃ zs, wsize n = zs := ⟨_, rfl⟩
  rw [hzs] at hwb
  have Hzs := Lib.hid hzs
  clear hv1 hv2 hv3 hE hzs
  go_enter Tryd.func3, Tryd.ntmps3
  go_wp2_with fail
  refine (writes_n _ _ _ _ ks ps rs ks.length rfl HV1.out HV2.out HV3.out (by omega) (by omega)).mono ?_
  rintro e wA ⟨xa, xc, bvs, rfl, hcoA, hnA⟩
  have HcsA := Lib.hid hcoA.calls
  have HnA := Lib.hid hnA
  have HEA := Lib.hid (HE.out.keep hnA (fun _ _ f => f))
  have hbA : B0 ≤ wA.heap.size := by have := hnA.size; omega
  have hcw : callsW (writesR ks ps rs) ≤ 1099511627776 := by have := callsW_writes ks ps rs; omega
  have hcl : (writesR ks ps rs).length ≤ 1099511627776 := by rw [writesR_length]; omega
  clear hcoA hnA
  go_wp2_with fail
  refine (writerRun_any _ B0 ad HEA.out hbA n room other _ (writesR ks ps rs) HcsA.out h1 h2 r1 r2 q1 q2 hcw hcl).mono ?_
  rintro e wC ⟨outs, st, vo, vx, vy, hruns, rfl, hoC, hxg, hyg, hnC⟩
  rw [Hzs.out] at hruns
  have Hruns := Lib.hid hruns
  have HoC := Lib.hid hoC
  have Hxg := Lib.hid hxg
  have Hyg := Lib.hid hyg
  have HnC := Lib.hid (HnA.out.then hnC)
  have HcsC := Lib.hid (HcsA.out.new hnC)
  clear hruns hoC hxg hyg hnC
  go_wp2_with fail
  refine (writerSize_any n h1 h2 _ zs Hzs.out).mono ?_
  rintro e wD ⟨rfl, hnD⟩
  have HoD := Lib.hid (ownsRow_keep HoC.out hnD (fun _ _ f => f))
  have HxD := Lib.hid (Hxg.out.new hnD)
  have HyD := Lib.hid (Hyg.out.new hnD)
  have HnD := Lib.hid (HnC.out.then hnD)
  have HcsD := Lib.hid (HcsC.out.new hnD)
  clear hnD
  go_wp2_with fail
  refine (allows_ok _ zs room other _ _ _ _ (writesR ks ps rs) outs st _ HcsD.out HoD.out HxD.out HyD.out Hruns.out hwb r1 r2 q1 q2 hcw hcl).mono ?_
  rintro e wF ⟨rfl, hnF⟩
  have HN := Lib.hid (HnD.out.then hnF)
  clear hnF
  go_wp2
  go_ret
  exact ⟨rfl, HN.out⟩
end Go.Proofs.YtegbfhfmbjdjiaaDoor
