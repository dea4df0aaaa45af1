/-
  The walk of the law FnWriteStrings.
-/
import Derived.Test.YtjihbkmbbcdnfaaDoorPureW6
import Derived.Test.YtjihbkmbbcdnfaaDoorSame
import Derived.Test.YtjihbkmbbcdnfaaDoorJoined
namespace Go.Proofs.YtjihbkmbbcdnfaaDoor
open Go.RowKit

/-- More calls without bytes. -/
theorem CallsOwn.more {w w2 w' : World} {base : Nat} {v v' : Value} {cs ds : List CallR} {bvs : List Value} (h : CallsOwn w base v cs bvs) (k2 : New w w2) (hg : w2.grownBy w' v.ownBlock) (hds : ∀ d ∈ ds, d.bytes = [])
    (ho : w'.ownsRow base 44 4 v' (cs.length + ds.length) (callsV cs bvs ++ callsV ds (List.replicate ds.length (.slice none 0 0)))) (hb : ∀ i, v'.ownBlock = some i → v.ownBlock = some i ∨ i = w2.heap.size) :
    CallsOwn w' base v' (cs ++ ds) (bvs ++ List.replicate ds.length (.slice none 0 0)) := by
  have hkg : Keep (fun i => v.ownBlock = some i) w2 w' := (Keep.refl _ w2).grown hg (fun i hi => .inl hi)
  have hsz2 := k2.size
  have app : ∀ (cs : List CallR) (bvs : List Value), bvs.length = cs.length → callsV (cs ++ ds) (bvs ++ List.replicate ds.length (.slice none 0 0)) = callsV cs bvs ++ callsV ds (List.replicate ds.length (.slice none 0 0)) := by
    intro cs
    induction cs with
    | nil => intro bvs hb; have : bvs = [] := List.eq_nil_of_length_eq_zero hb; subst this; rfl
    | cons c cs ih =>
      intro bvs hb
      cases bvs with
      | nil => simp at hb
      | cons b bvs =>
        have := ih bvs (by simpa using hb)
        simp only [List.cons_append, callsV, this, List.append_assoc]
  have get : ∀ (j : Nat) (u : Value), (bvs ++ List.replicate ds.length (Value.slice none 0 0))[j]? = some u → (j < bvs.length ∧ bvs[j]? = some u) ∨ (bvs.length ≤ j ∧ u = .slice none 0 0) := fun j u hu => by
    by_cases e : j < bvs.length
    · rw [List.getElem?_append_left e] at hu; exact .inl ⟨e, hu⟩
    · rw [List.getElem?_append_right (by omega), List.getElem?_replicate] at hu
      split at hu
      · exact .inr ⟨by omega, (Option.some.inj hu).symm⟩
      · cases hu
  refine ⟨by rw [app cs bvs h.len, List.length_append]; exact ho, by simp [h.len], fun j u y hu hy => ?_, fun j u i hu hi => ?_⟩
  · rcases get j u hu with ⟨e, hu'⟩ | ⟨e, rfl⟩
    · rw [List.getElem?_append_left (by rw [← h.len]; exact e)] at hy
      exact RowAt.keep (RowAt.new (h.row j u y hu' hy) k2) hkg (fun i hi e => h.apart j u i hu' hi e)
    · rw [List.getElem?_append_right (by rw [← h.len]; exact e)] at hy
      rw [hds y (List.mem_of_getElem? hy)]
      exact ⟨none, 0, by simp [bytesV], by simp [bytesV], by unfold maxLen; omega, fun _ => rfl, fun ad e => by cases e⟩
  · rcases get j u hu with ⟨e2, hu'⟩ | ⟨_, rfl⟩
    · intro e
      rcases hb i e with e | e
      · exact h.apart j u i hu' hi e
      · subst e
        obtain ⟨y, hy⟩ : ∃ y, cs[j]? = some y := ⟨_, List.getElem?_eq_getElem (by rw [← h.len]; exact e2)⟩
        have := RowAt.lt (h.row j u y hu' hy) _ hi
        omega
    · obtain ⟨_, _, _, e, _⟩ := hi; simp at e

theorem intsAt_nil (w : World) : IntsAt w (.slice none 0 0) [] := ⟨none, 0, rfl, by simp [intsV], by unfold maxLen; omega, fun _ => rfl, fun ad e => by cases e⟩
theorem replV_snoc (k : Nat) (x : Int) : List.replicate (k + 1) (Value.int .i64 x) = List.replicate k (.int .i64 x) ++ [.int .i64 x] := by rw [List.replicate_succ']
theorem replV_ints (k : Nat) (x : Int) : List.replicate k (Value.int .i64 x) = intsV (List.replicate k x) := by simp [intsV, intV]

theorem callsW_asks : ∀ (cs : List CallR), (∀ c ∈ cs, c.kind = 0 ∨ c.kind = 3) → callsW cs = (asks cs).length + 4 * cs.length
  | [], _ => rfl
  | c :: cs, h => by
    have h1 := callsW_asks cs (fun d hd => h d (by simp [hd]))
    have h2 := h c (by simp)
    simp only [callsW, asks, ask, if_pos h2, List.length_append, List.length_cons]
    omega

theorem writes_n (w : World) (v1 v2 v3 : Value) (ks : List Int) (ps : List (List UInt8)) (rs : List Int) (m : Nat) (hm : ks.length = m) (h1 : IntsAt w v1 ks) (h2 : PartsAt w v2 ps) (h3 : IntsAt w v3 rs) (hk : m ≤ 1099511627776) (hp : (joined ps).length ≤ 140737488355328) :
    Calls Tryd.prog 24 #[v1, v2, v3] w fun e w' => ∃ a c bvs, e = .returned (.slice a m c) ∧ CallsOwn w' w.heap.size (.slice a m c) (writesR ks ps rs) bvs ∧ New w w' := by
  subst hm
  exact writes_any w v1 v2 v3 ks ps rs h1 h2 h3 hk hp

/-- The cells of two calls. -/
def two (x y : Int) : Array Value := #[.int .i64 x, .int .i64 0, .int .u8 0, .slice none 0 0, .int .i64 y, .int .i64 0, .int .u8 0, .slice none 0 0]
theorem two_calls (x y : Int) : callsV [callK x, callK y] (List.replicate 2 (.slice none 0 0)) = (two x y).toList := rfl
theorem two_one (x y : Int) : ∀ u ∈ (two x y).toList, u.oneCell' = true := by
  intro u hu
  simp [two] at hu
  rcases hu with rfl | rfl | rfl | rfl | rfl | rfl | rfl | rfl <;> rfl
theorem two_cells (w : World) (x y : Int) : ∀ ad', some (⟨w.heap.size, 0, none⟩ : Addr) = some ad' → CellsAt (w.alloc (.cells (two x y) 44)) ad' (two x y).toList := by
  intro ad' e' j u hu
  cases e'
  rw [addr_add, Nat.zero_add]
  exact (cell_new w (two x y) 44 j).trans (by simpa using hu)

def KKInv (w : World) (n : Nat) (x y : Int) (g : Nat) (v7 v8 i : Value) (wr : World) : Prop :=
  ∃ (k : Nat) (a1 a2 : Option Addr) (c1 c2 : Nat), k ≤ n ∧ i = .int .i64 k ∧ v7 = .slice a1 k c1 ∧ v8 = .slice a2 k c2 ∧ wr.ownsRow w.heap.size 3 1 v7 k (List.replicate k (.int .i64 x)) ∧ wr.ownsRow w.heap.size 3 1 v8 k (List.replicate k (.int .i64 y)) ∧
    (∀ i, v7.ownBlock = some i → v8.ownBlock ≠ some i) ∧ New w wr ∧ g = n - k

theorem infoIntA : (Tryd.prog.info? 3).map (fun i => (i.zero, i.size, i.bytes)) = some (some (.int .i64 0), 1, 8) := by kernel_rfl

set_option maxRecDepth 100000 in
set_option maxHeartbeats 4000000 in
theorem walkFnWriteStrings (w : World) (B0 : Nat) (ad : Nat → Addr) (hE : Errs w B0 ad) (hB0 : B0 ≤ w.heap.size) (n room : Int) (v : Value) (ps : List (List UInt8)) (h1 : -32768 ≤ n) (h2 : n ≤ 32767)
    (r1 : -9223372036854775807 ≤ room + 1) (r2 : room ≤ 9223372036854775807) (hv : PartsAt w v ps) (hall : (joined ps).length + ps.length ≤ 1048576) :
    Calls Tryd.prog 8 #[.int .i16 n, v, .int .i64 room] w fun e w' => e = .returned (.bool true) ∧ New w w' := by
  obtain ⟨av, cv, rfl, hm⟩ := hv.len
  obtain ⟨i0, hi, hz0, hz1, hz2⟩ := info_parts infoIntA
  obtain ⟨j0, hj, hy0, hy1, hy2⟩ := info_parts infoCall
  have HV := Lib.hid hv
  have HE := Lib.hid hE
  have H0 : Hid (KKInv w ps.length 0 3 ps.length (.slice none 0 0) (.slice none 0 0) (.int .i64 0) w) := ⟨0, none, none, 0, 0, Nat.zero_le _, rfl, rfl, rfl, by simpa using World.ownsRow_nil w w.heap.size 3 1, by simpa using World.ownsRow_nil w w.heap.size 3 1, (fun i e => by cases e), Keep.refl _ _, rfl⟩
  have hwb := wsize_bounds n h2
  clear hv hE
  go_enter Tryd.func8, Tryd.ntmps8
  go_wp2_with fail
  go_loopg [7, 8, 18] ps.length (fun g v7 v8 i wr => KKInv w ps.length 0 3 g v7 v8 i wr)
  case atStart => exact H0.out
  case round =>
    obtain ⟨k, a1, a2, c1, c2, hk, rfl, rfl, rfl, ho1, ho2, hne, hnw, rfl⟩ := hrel
    by_cases hlt : k < ps.length
    · have hlt' : (k : Int) < ps.length := by omega
      have hbase := hnw.size
      have Ho1 : Hid ((wr.alloc (.cells #[.int .i64 0] 3)).ownsRow w.heap.size 3 1 (.slice a1 k c1) k (List.replicate k (.int .i64 0))) := ho1.alloc _
      have Ho2 := Lib.hid ho2
      have HO1 := Lib.hid ho1
      have Hne := Lib.hid hne
      have Hnw := Lib.hid hnw
      have HE0 : Hid (∀ ad', some (⟨wr.heap.size, 0, none⟩ : Addr) = some ad' → CellsAt (wr.alloc (.cells #[.int .i64 0] 3)) ad' [.int .i64 0]) := by
        intro ad' e' j u hu
        cases e'
        rw [addr_add, Nat.zero_add]
        exact (cell_new wr #[.int .i64 0] 3 j).trans (by simpa using hu)
      have HE1 : Hid (∀ u ∈ [(Value.int .i64 0)], u.oneCell' = true) := by intro u hu; simp at hu; subst hu; rfl
      clear ho1 ho2 hne hnw
      go_wp2_with (at_builtin; refine wpList_append_row rfl _ _ 40 rfl w.heap.size 3 i0 (.int .i64 0) 1 8 Tryd.underlying40 hi hz0 hz1 hz2 (by rfl) (by decide) _ k (List.replicate k (.int .i64 0)) rfl Ho1.out (some ⟨wr.heap.size, 0, none⟩) 1 1 [.int .i64 0] (by rfl) (by intro e; cases e) (by rfl) HE0.out HE1.out (by unfold maxLen; omega) (by omega) (by simp; omega) ?_)
      intro a3 c3 w3 ho3 hg3 hb3
      have hk3 : Keep (fun i => (Value.slice a1 k c1).ownBlock = some i) wr w3 := ((Keep.refl _ wr).alloc _).trans ((Keep.refl (fun i => (Value.slice a1 k c1).ownBlock = some i) _).grown hg3 (fun i hi => .inl hi)) (fun _ _ e => e)
      have ho23 : w3.ownsRow w.heap.size 3 1 (.slice a2 k c2) k (List.replicate k (.int .i64 3)) := ownsRow_keep Ho2.out hk3 (fun i hi e => Hne.out i e hi)
      have Ho2' : Hid ((w3.alloc (.cells #[.int .i64 3] 3)).ownsRow w.heap.size 3 1 (.slice a2 k c2) k (List.replicate k (.int .i64 3))) := ho23.alloc _
      have HE0' : Hid (∀ ad', some (⟨w3.heap.size, 0, none⟩ : Addr) = some ad' → CellsAt (w3.alloc (.cells #[.int .i64 3] 3)) ad' [.int .i64 3]) := by
        intro ad' e' j u hu
        cases e'
        rw [addr_add, Nat.zero_add]
        exact (cell_new w3 #[.int .i64 3] 3 j).trans (by simpa using hu)
      have HE1' : Hid (∀ u ∈ [(Value.int .i64 3)], u.oneCell' = true) := by intro u hu; simp at hu; subst hu; rfl
      have hs3 := hk3.size
      have Hk3 := Lib.hid hk3
      have Ho3 := Lib.hid ho3
      have Hb3 := Lib.hid hb3
      clear ho3 hg3 hb3 hk3 ho23
      go_wp2_with (at_builtin; refine wpList_append_row rfl _ _ 40 rfl w.heap.size 3 i0 (.int .i64 0) 1 8 Tryd.underlying40 hi hz0 hz1 hz2 (by rfl) (by decide) _ k (List.replicate k (.int .i64 3)) rfl Ho2'.out (some ⟨w3.heap.size, 0, none⟩) 1 1 [.int .i64 3] (by rfl) (by intro e; cases e) (by rfl) HE0'.out HE1'.out (by unfold maxLen; omega) (by omega) (by simp; omega) ?_)
      intro a5 c5 w5 ho5 hg5 hb5
      have hsz1 : (wr.alloc (.cells #[.int .i64 0] 3)).heap.size = wr.heap.size + 1 := by simp
      have H5 : Hid (KKInv w ps.length 0 3 (ps.length - (k + 1)) (.slice a3 (k + 1) c3) (.slice a5 (k + 1) c5) (.int .i64 ((k : Int) + 1)) w5) := by
        have hk5 : Keep (fun i => (Value.slice a2 k c2).ownBlock = some i) w3 w5 := ((Keep.refl _ w3).alloc _).trans ((Keep.refl (fun i => (Value.slice a2 k c2).ownBlock = some i) _).grown hg5 (fun i hi => .inl hi)) (fun _ _ e => e)
        have hlt2 : ∀ i, (Value.slice a2 k c2).ownBlock = some i → i < wr.heap.size := fun i hi => (Ho2.out.lt i hi).2
        have hlt1 : ∀ i, (Value.slice a1 k c1).ownBlock = some i → i < wr.heap.size := fun i hi => (HO1.out.lt i hi).2
        have hlt3 : ∀ i, (Value.slice a3 (k + 1) c3).ownBlock = some i → i < w3.heap.size := fun i hi => (Ho3.out.lt i hi).2
        have hb3' : ∀ i, (Value.slice a3 (k + 1) c3).ownBlock = some i → (Value.slice a1 k c1).ownBlock = some i ∨ i = wr.heap.size + 1 := fun i hi => by
          rcases Hb3.out i hi with h | h
          · exact .inl h
          · first | exact .inr h | (right; rw [h]; simp)
        have hne35 : ∀ i, (Value.slice a3 (k + 1) c3).ownBlock = some i → (Value.slice a2 k c2).ownBlock ≠ some i := fun i hi e => by
          rcases hb3' i hi with h | h
          · exact Hne.out i h e
          · have := hlt2 i e; omega
        refine ⟨k + 1, a3, a5, c3, c5, hlt, by rw [show (((k + 1 : Nat)) : Int) = (k : Int) + 1 by omega], rfl, rfl, ?_, ?_, fun i hi e => ?_, ?_, rfl⟩
        · rw [replV_snoc]; exact ownsRow_keep Ho3.out hk5 (fun i hi e => hne35 i hi e)
        · rw [replV_snoc]; exact ho5
        · rcases hb5 i e with h | h
          · exact hne35 i hi h
          · have h7 := hlt3 i hi; first | omega | (simp at h; omega)
        · have n1 : New w w3 := Hnw.out.trans Hk3.out (fun i hi e => by have := (HO1.out.lt i e).1; omega)
          exact n1.trans hk5 (fun i hi e => by have := (Ho2.out.lt i e).1; omega)
      clear ho5 hg5 hb5 hsz1
      go_wp2
      go_roundg (ps.length - (k + 1))
      case measure => omega
      case rel => exact H5.out
    · obtain rfl : k = ps.length := by omega
      have hnl : ¬ ((ps.length : Int) < ps.length) := by omega
      rw [replV_ints] at ho1 ho2
      have HI1 : Hid (IntsAt wr (.slice a1 ps.length c1) (List.replicate ps.length 0)) := ownsRow_rowAt ho1
      have HI2 : Hid (IntsAt wr (.slice a2 ps.length c2) (List.replicate ps.length 3)) := ownsRow_rowAt ho2
      have HN0 := Lib.hid hnw
      have HVr := Lib.hid (HV.out.new hnw)
      clear ho1 ho2 hne hnw hlt
      have hkl : (List.replicate ps.length (0 : Int)).length = ps.length := by simp
      have Hkl := Lib.hid hkl
      clear hkl
      go_wp2_with fail
      refine (writes_n _ _ _ _ (List.replicate ps.length 0) ps [] ps.length Hkl.out HI1.out HVr.out (intsAt_nil _) (by omega) (by omega)).mono ?_
      rintro e wA ⟨xa, xc, bvs, rfl, hcoA, hnA⟩
      have HcoA := Lib.hid hcoA
      have HNA := Lib.hid (HN0.out.then hnA)
      have HnA := Lib.hid hnA
      have hlenA : (writesR (List.replicate ps.length 0) ps []).length = ps.length := by rw [writesR_length]; simp
      have HlenA := Lib.hid hlenA
      have hzA := hnA.size
      have HX5 : Hid ((wA.alloc (.cells (two 4 5) 44)).ownsRow wr.heap.size 44 4 (.slice xa ps.length xc) ps.length (callsV (writesR (List.replicate ps.length 0) ps []) bvs)) := by
        have h8 := hcoA.own
        rw [hlenA] at h8
        exact h8.alloc _
      have HE0 := Lib.hid (two_cells wA 4 5)
      unfold two at HX5 HE0
      clear hcoA hnA hlenA
      go_wp2_with (at_builtin; refine wpList_append_row rfl _ _ 41 rfl wr.heap.size 44 j0 (.agg #[.int .i64 0, .int .i64 0, .int .u8 0, .slice none 0 0]) 4 48 Tryd.underlying41 hj hy0 hy1 hy2 (by rfl) (by decide) _ ps.length (callsV (writesR (List.replicate ps.length 0) ps []) bvs) rfl HX5.out (some ⟨wA.heap.size, 0, none⟩) 2 2 (two 4 5).toList (by rfl) (by intro e; cases e) (by rfl) HE0.out (two_one 4 5) (by unfold maxLen; omega) (by omega) (by simp; omega) ?_)
      intro ya yc wB hoB hgB hbB
      have hnB0 : New wA (wA.alloc (.cells (two 4 5) 44)) := (Keep.refl _ _).alloc _
      have hcoB : CallsOwn wB wr.heap.size (.slice ya (ps.length + 2) yc) (writesR (List.replicate ps.length 0) ps [] ++ [callK 4, callK 5]) (bvs ++ List.replicate 2 (.slice none 0 0)) := by
        refine HcoA.out.more (ds := [callK 4, callK 5]) hnB0 hgB (fun d hd => by simp at hd; rcases hd with rfl | rfl <;> rfl) ?_ (fun i hi => ?_)
        · rw [HlenA.out]; exact hoB
        · rcases hbB i hi with h | h
          · exact .inl h
          · first | exact .inr h | (right; rw [h]; simp [two])
      have hkB : New wr wB := (HnA.out.then hnB0).trans ((Keep.refl (fun i => (Value.slice xa ps.length xc).ownBlock = some i) _).grown hgB (fun i hi => .inl hi)) (fun i hi e => by have := (HcoA.out.own.lt i e).1; omega)
      have HNB0 := Lib.hid hkB
      have HcsB := Lib.hid hcoB.calls
      have hcw : callsW (writesR (List.replicate ps.length 0) ps [] ++ [callK 4, callK 5]) ≤ 1099511627776 := by
        rw [callsW_append, callsW_asks _ (fun c hc => by rw [writes_kind 0 ps.length ps [] c hc]; omega), asks_writes 0 (by omega) ps.length ps [] rfl, HlenA.out]
        simp [callsW, callK]; omega
      have hcl : (writesR (List.replicate ps.length 0) ps [] ++ [callK 4, callK 5]).length ≤ 1099511627776 := by
        rw [List.length_append, HlenA.out]; simp; omega
      have HEB := Lib.hid (HE.out.keep (HN0.out.then hkB) (fun _ _ f => f))
      have hbB1 : B0 ≤ wB.heap.size := by have := (HN0.out.then hkB).size; omega
      clear hoB hgB hbB hnB0 hcoB hkB
      go_wp2_with fail
      refine (writerRun_any _ B0 ad HEB.out hbB1 n room 0 _ _ HcsB.out h1 h2 r1 r2 (by omega) (by omega) hcw hcl).mono ?_
      rintro e wC ⟨outs, st, vo, vx, vy, hruns, rfl, hoC, hx, hyy, hnC⟩
      obtain ⟨p1, p2, p3⟩ := strings_run (kd := 0) (by omega) rfl hwb hruns
      rw [p1] at hoC
      rw [p2] at hx
      obtain ⟨oa, oc, rfl⟩ := ownsRow_slice hoC
      have HoC := Lib.hid hoC
      have Hx := Lib.hid hx
      have Hp1 := Lib.hid p1
      have Hp3 := Lib.hid p3
      have HNB := Lib.hid (HNB0.out.then hnC)
      clear hruns hoC hx hyy hnC p1 p2 p3 HcsB hcw hcl
      have hklb : (List.replicate ps.length (3 : Int)).length = ps.length := by simp
      have Hklb := Lib.hid hklb
      clear hklb
      go_wp2_with fail
      refine (writes_n _ _ _ _ (List.replicate ps.length 3) ps [] ps.length Hklb.out (HI2.out.new HNB.out) (HVr.out.new HNB.out) (intsAt_nil _) (by omega) (by omega)).mono ?_
      rintro e wAb ⟨xab, xcb, bvsb, rfl, hcoAb, hnAb⟩
      have HcoAb := Lib.hid hcoAb
      have HNAb := Lib.hid ((HN0.out.then HNB.out).then hnAb)
      have HnAb := Lib.hid hnAb
      have hlenAb : (writesR (List.replicate ps.length 3) ps []).length = ps.length := by rw [writesR_length]; simp
      have HlenAb := Lib.hid hlenAb
      have hzAb := hnAb.size
      have HX5b : Hid ((wAb.alloc (.cells (two 4 5) 44)).ownsRow wC.heap.size 44 4 (.slice xab ps.length xcb) ps.length (callsV (writesR (List.replicate ps.length 3) ps []) bvsb)) := by
        have h8 := hcoAb.own
        rw [hlenAb] at h8
        exact h8.alloc _
      have HE0b := Lib.hid (two_cells wAb 4 5)
      unfold two at HX5b HE0b
      clear hcoAb hnAb hlenAb
      go_wp2_with (at_builtin; refine wpList_append_row rfl _ _ 41 rfl wC.heap.size 44 j0 (.agg #[.int .i64 0, .int .i64 0, .int .u8 0, .slice none 0 0]) 4 48 Tryd.underlying41 hj hy0 hy1 hy2 (by rfl) (by decide) _ ps.length (callsV (writesR (List.replicate ps.length 3) ps []) bvsb) rfl HX5b.out (some ⟨wAb.heap.size, 0, none⟩) 2 2 (two 4 5).toList (by rfl) (by intro e; cases e) (by rfl) HE0b.out (two_one 4 5) (by unfold maxLen; omega) (by omega) (by simp; omega) ?_)
      intro yab ycb wBb hoBb hgBb hbBb
      have hnB0b : New wAb (wAb.alloc (.cells (two 4 5) 44)) := (Keep.refl _ _).alloc _
      have hcoBb : CallsOwn wBb wC.heap.size (.slice yab (ps.length + 2) ycb) (writesR (List.replicate ps.length 3) ps [] ++ [callK 4, callK 5]) (bvsb ++ List.replicate 2 (.slice none 0 0)) := by
        refine HcoAb.out.more (ds := [callK 4, callK 5]) hnB0b hgBb (fun d hd => by simp at hd; rcases hd with rfl | rfl <;> rfl) ?_ (fun i hi => ?_)
        · rw [HlenAb.out]; exact hoBb
        · rcases hbBb i hi with h | h
          · exact .inl h
          · first | exact .inr h | (right; rw [h]; simp [two])
      have hkBb : New wC wBb := (HnAb.out.then hnB0b).trans ((Keep.refl (fun i => (Value.slice xab ps.length xcb).ownBlock = some i) _).grown hgBb (fun i hi => .inl hi)) (fun i hi e => by have := (HcoAb.out.own.lt i e).1; omega)
      have HNBb0 := Lib.hid hkBb
      have HcsBb := Lib.hid hcoBb.calls
      have hcwb : callsW (writesR (List.replicate ps.length 3) ps [] ++ [callK 4, callK 5]) ≤ 1099511627776 := by
        rw [callsW_append, callsW_asks _ (fun c hc => by rw [writes_kind 3 ps.length ps [] c hc]; omega), asks_writes 3 (by omega) ps.length ps [] rfl, HlenAb.out]
        simp [callsW, callK]; omega
      have hclb : (writesR (List.replicate ps.length 3) ps [] ++ [callK 4, callK 5]).length ≤ 1099511627776 := by
        rw [List.length_append, HlenAb.out]; simp; omega
      have HEBb := Lib.hid (HE.out.keep ((HN0.out.then HNB.out).then hkBb) (fun _ _ f => f))
      have hbB1b : B0 ≤ wBb.heap.size := by have := ((HN0.out.then HNB.out).then hkBb).size; omega
      clear hoBb hgBb hbBb hnB0b hcoBb hkBb
      go_wp2_with fail
      refine (writerRun_any _ B0 ad HEBb.out hbB1b n room 0 _ _ HcsBb.out h1 h2 r1 r2 (by omega) (by omega) hcwb hclb).mono ?_
      rintro e wCb ⟨outsb, stb, vob, vxb, vyb, hrunsb, rfl, hoCb, hxb, hyyb, hnCb⟩
      obtain ⟨p1b, p2b, p3b⟩ := strings_run (kd := 3) (by omega) rfl hwb hrunsb
      rw [p1b] at hoCb
      rw [p2b] at hxb
      obtain ⟨oab, ocb, rfl⟩ := ownsRow_slice hoCb
      have HoCb := Lib.hid hoCb
      have Hxb := Lib.hid hxb
      have Hp1b := Lib.hid p1b
      have Hp3b := Lib.hid p3b
      have HNCb := Lib.hid (HNBb0.out.then hnCb)
      clear hrunsb hoCb hxb hyyb hnCb p1b p2b p3b HcsBb hcwb hclb
      have HN2 : Hid (New w wCb) := (HN0.out.then HNB.out).then HNCb.out
      have hx2 : BytesAt wCb vx ((joined ps).take room.toNat) := RowAt.new Hx.out HNCb.out
      have HX2 := Lib.hid hx2
      have HoC2 : Hid (wCb.ownsRow wB.heap.size 50 5 (.slice oa (ps.length + 2) oc) (ps.length + 2) (outsV outs)) := ownsRow_keep HoC.out HNCb.out (fun _ _ f => f)
      obtain ⟨y, hy⟩ : ∃ y, y = joined ps := ⟨_, rfl⟩
      have hyl : y.length ≤ 1048576 := by rw [hy]; omega
      have HVe := Lib.hid (HV.out.new HN2.out)
      have Hy := Lib.hid hy
      have hcase : (0 < room ∧ room < (y.length : Int)) ∨ (¬ 0 < room ∧ room < (y.length : Int)) ∨ (0 < room ∧ ¬ room < (y.length : Int)) ∨ (room = 0 ∧ y = []) := by
        by_cases c1 : 0 < room
        · by_cases c2 : room < (y.length : Int)
          · exact .inl ⟨c1, c2⟩
          · exact .inr (.inr (.inl ⟨c1, c2⟩))
        · by_cases c2 : room < (y.length : Int)
          · exact .inr (.inl ⟨c1, c2⟩)
          · exact .inr (.inr (.inr ⟨by omega, List.eq_nil_of_length_eq_zero (by omega)⟩))
      have Hcase := Lib.hid hcase
      obtain ⟨z, hz⟩ : ∃ z, z = (joined ps).take room.toNat := ⟨_, rfl⟩
      have hxz : BytesAt wCb vx z := by rw [hz]; exact HX2.out
      have hxzb : BytesAt wCb vxb z := by rw [hz]; exact Hxb.out
      have hzy : z = y.take room.toNat := by rw [hz, hy]
      obtain ⟨ea1, ec1, rfl, _⟩ := id hxz
      obtain ⟨ea2, ec2, rfl, _⟩ := id hxzb
      rw [bytesV_length] at hxz hxzb ⊢
      have HXZ := Lib.hid hxz
      have HXZb := Lib.hid hxzb
      have Hzy := Lib.hid hzy
      have hzl2 : z.length ≤ 1048576 := by rw [hzy]; simp; omega
      clear hx2 hy hcase hz hxz hxzb hzy HX2 Hx Hxb
      rcases Hcase.out with ⟨k1, k2⟩ | ⟨k1, k2⟩ | ⟨k1, k2⟩ | ⟨k1, k2⟩
      · have hzr : (z.length : Int) = room := by rw [Hzy.out]; simp; omega
        obtain rfl : room = (z.length : Int) := hzr.symm
        clear hzr
        go_wp2_with fail
        refine (equal_gen _ _ _ z z HXZ.out HXZb.out (by omega) true (by simp)).mono ?_
        rintro e wD ⟨rfl, hnD⟩
        have HND := Lib.hid (HN2.out.then hnD)
        have HVd := Lib.hid (HVe.out.new hnD)
        have HoD : Hid (wD.ownsRow wB.heap.size 50 5 (.slice oa (ps.length + 2) oc) (ps.length + 2) (outsV outs)) := ownsRow_keep HoC2.out hnD (fun _ _ f => f)
        have HoDb : Hid (wD.ownsRow wBb.heap.size 50 5 (.slice oab (ps.length + 2) ocb) (ps.length + 2) (outsV outsb)) := ownsRow_keep HoCb.out hnD (fun _ _ f => f)
        clear hnD
        go_wp2_with fail
        refine (lawJoined _ _ ps HVd.out (by omega) y Hy.out).mono ?_
        rintro e wE ⟨aE, cE, rfl, hoE, hnE⟩
        have HNE := Lib.hid (HND.out.then hnE)
        have HoE : Hid (wE.ownsRow wB.heap.size 50 5 (.slice oa (ps.length + 2) oc) (ps.length + 2) (outsV outs)) := ownsRow_keep HoD.out hnE (fun _ _ f => f)
        have HoEb : Hid (wE.ownsRow wBb.heap.size 50 5 (.slice oab (ps.length + 2) ocb) (ps.length + 2) (outsV outsb)) := ownsRow_keep HoDb.out hnE (fun _ _ f => f)
        clear hoE hnE
        go_wp2
        go_ret
        exact ⟨rfl, HNE.out⟩

      · have hz0 : z = [] := by rw [Hzy.out, show room.toNat = 0 by omega]; rfl
        subst hz0
        by_cases hye : y = []
        · subst hye
          have k3 : room < 0 := by simpa using k2
          clear k2
          go_wp2_with fail
          refine (equal_gen _ _ _ [] [] HXZ.out HXZb.out (by omega) true (by simp)).mono ?_
          rintro e wD ⟨rfl, hnD⟩
          have HND := Lib.hid (HN2.out.then hnD)
          have HVd := Lib.hid (HVe.out.new hnD)
          have HoD : Hid (wD.ownsRow wB.heap.size 50 5 (.slice oa (ps.length + 2) oc) (ps.length + 2) (outsV outs)) := ownsRow_keep HoC2.out hnD (fun _ _ f => f)
          have HoDb : Hid (wD.ownsRow wBb.heap.size 50 5 (.slice oab (ps.length + 2) ocb) (ps.length + 2) (outsV outsb)) := ownsRow_keep HoCb.out hnD (fun _ _ f => f)
          clear hnD
          go_wp2_with fail
          refine (lawJoined _ _ ps HVd.out (by omega) [] Hy.out).mono ?_
          rintro e wE ⟨aE, cE, rfl, hoE, hnE⟩
          have HNE := Lib.hid (HND.out.then hnE)
          have HoE : Hid (wE.ownsRow wB.heap.size 50 5 (.slice oa (ps.length + 2) oc) (ps.length + 2) (outsV outs)) := ownsRow_keep HoD.out hnE (fun _ _ f => f)
          have HoEb : Hid (wE.ownsRow wBb.heap.size 50 5 (.slice oab (ps.length + 2) ocb) (ps.length + 2) (outsV outsb)) := ownsRow_keep HoDb.out hnE (fun _ _ f => f)
          clear hoE hnE
          go_wp2
          go_ret
          exact ⟨rfl, HNE.out⟩


        · have hyp : (0 : Int) < y.length := by have := List.length_pos_iff.2 hye; omega
          have hyz : ¬ y.length = 0 := by omega
          go_wp2_with fail
          refine (equal_gen _ _ _ [] [] HXZ.out HXZb.out (by omega) true (by simp)).mono ?_
          rintro e wD ⟨rfl, hnD⟩
          have HND := Lib.hid (HN2.out.then hnD)
          have HVd := Lib.hid (HVe.out.new hnD)
          have HoD : Hid (wD.ownsRow wB.heap.size 50 5 (.slice oa (ps.length + 2) oc) (ps.length + 2) (outsV outs)) := ownsRow_keep HoC2.out hnD (fun _ _ f => f)
          have HoDb : Hid (wD.ownsRow wBb.heap.size 50 5 (.slice oab (ps.length + 2) ocb) (ps.length + 2) (outsV outsb)) := ownsRow_keep HoCb.out hnD (fun _ _ f => f)
          clear hnD
          go_wp2_with fail
          refine (lawJoined _ _ ps HVd.out (by omega) y Hy.out).mono ?_
          rintro e wE ⟨aE, cE, rfl, hoE, hnE⟩
          have HNE := Lib.hid (HND.out.then hnE)
          have HoE : Hid (wE.ownsRow wB.heap.size 50 5 (.slice oa (ps.length + 2) oc) (ps.length + 2) (outsV outs)) := ownsRow_keep HoD.out hnE (fun _ _ f => f)
          have HoEb : Hid (wE.ownsRow wBb.heap.size 50 5 (.slice oab (ps.length + 2) ocb) (ps.length + 2) (outsV outsb)) := ownsRow_keep HoDb.out hnE (fun _ _ f => f)
          clear hoE hnE
          go_wp2
          go_ret
          exact ⟨rfl, HNE.out⟩

      · have hzy2 : z = y := by rw [Hzy.out, List.take_of_length_le (by omega)]
        subst hzy2
        have Hoo : Hid (outs = outsb) := by show _ = _; rw [Hp3.out (by rw [← Hy.out]; omega), Hp3b.out (by rw [← Hy.out]; omega)]
        go_wp2_with fail
        refine (equal_gen _ _ _ z z HXZ.out HXZb.out (by omega) true (by simp)).mono ?_
        rintro e wD ⟨rfl, hnD⟩
        have HND := Lib.hid (HN2.out.then hnD)
        have HVd := Lib.hid (HVe.out.new hnD)
        have HoD : Hid (wD.ownsRow wB.heap.size 50 5 (.slice oa (ps.length + 2) oc) (ps.length + 2) (outsV outs)) := ownsRow_keep HoC2.out hnD (fun _ _ f => f)
        have HoDb : Hid (wD.ownsRow wBb.heap.size 50 5 (.slice oab (ps.length + 2) ocb) (ps.length + 2) (outsV outsb)) := ownsRow_keep HoCb.out hnD (fun _ _ f => f)
        clear hnD
        go_wp2_with fail
        refine (lawJoined _ _ ps HVd.out (by omega) z Hy.out).mono ?_
        rintro e wE ⟨aE, cE, rfl, hoE, hnE⟩
        have HNE := Lib.hid (HND.out.then hnE)
        have HoE : Hid (wE.ownsRow wB.heap.size 50 5 (.slice oa (ps.length + 2) oc) (ps.length + 2) (outsV outs)) := ownsRow_keep HoD.out hnE (fun _ _ f => f)
        have HoEb : Hid (wE.ownsRow wBb.heap.size 50 5 (.slice oab (ps.length + 2) ocb) (ps.length + 2) (outsV outsb)) := ownsRow_keep HoDb.out hnE (fun _ _ f => f)
        clear hoE hnE
        go_wp2_with fail
        refine (sameOuts_same _ _ _ _ _ outs (by rw [Hp1.out]; exact HoE.out) (by rw [Hp1.out, Hoo.out]; exact HoEb.out) (by rw [Hp1.out]; omega)).mono ?_
        rintro e wF ⟨rfl, hnF⟩
        have HNF := Lib.hid (HNE.out.then hnF)
        clear hnF
        go_wp2
        go_ret
        exact ⟨rfl, HNF.out⟩

      · subst k1 k2
        have hzy2 : z = [] := by rw [Hzy.out]; simp
        subst hzy2
        have Hoo : Hid (outs = outsb) := by show _ = _; rw [Hp3.out (by rw [← Hy.out]; simp), Hp3b.out (by rw [← Hy.out]; simp)]
        go_wp2_with fail
        refine (equal_gen _ _ _ [] [] HXZ.out HXZb.out (by omega) true (by simp)).mono ?_
        rintro e wD ⟨rfl, hnD⟩
        have HND := Lib.hid (HN2.out.then hnD)
        have HVd := Lib.hid (HVe.out.new hnD)
        have HoD : Hid (wD.ownsRow wB.heap.size 50 5 (.slice oa (ps.length + 2) oc) (ps.length + 2) (outsV outs)) := ownsRow_keep HoC2.out hnD (fun _ _ f => f)
        have HoDb : Hid (wD.ownsRow wBb.heap.size 50 5 (.slice oab (ps.length + 2) ocb) (ps.length + 2) (outsV outsb)) := ownsRow_keep HoCb.out hnD (fun _ _ f => f)
        clear hnD
        go_wp2_with fail
        refine (lawJoined _ _ ps HVd.out (by omega) [] Hy.out).mono ?_
        rintro e wE ⟨aE, cE, rfl, hoE, hnE⟩
        have HNE := Lib.hid (HND.out.then hnE)
        have HoE : Hid (wE.ownsRow wB.heap.size 50 5 (.slice oa (ps.length + 2) oc) (ps.length + 2) (outsV outs)) := ownsRow_keep HoD.out hnE (fun _ _ f => f)
        have HoEb : Hid (wE.ownsRow wBb.heap.size 50 5 (.slice oab (ps.length + 2) ocb) (ps.length + 2) (outsV outsb)) := ownsRow_keep HoDb.out hnE (fun _ _ f => f)
        clear hoE hnE
        go_wp2_with fail
        refine (sameOuts_same _ _ _ _ _ outs (by rw [Hp1.out]; exact HoE.out) (by rw [Hp1.out, Hoo.out]; exact HoEb.out) (by rw [Hp1.out]; omega)).mono ?_
        rintro e wF ⟨rfl, hnF⟩
        have HNF := Lib.hid (HNE.out.then hnF)
        clear hnF
        go_wp2
        go_ret
        exact ⟨rfl, HNF.out⟩

end Go.Proofs.YtjihbkmbbcdnfaaDoor
