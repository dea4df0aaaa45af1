/-
  The documentation's next, kind by kind.
-/
import Derived.Test.YtegbfhfmbjdjiaaDoorFlow
import Derived.Test.YtegbfhfmbjdjiaaDoorSpecE
import Derived.Test.YtegbfhfmbjdjiaaDoorRun4
namespace Go.Proofs.YtegbfhfmbjdjiaaDoor
open Go.RowKit

theorem FlowDone.lift {w W1 : World} {fb : Nat} {v : Value} {f : Flow} {B : Nat} {e : Ending} {w2 : World} (hn : New w W1) (h : FlowDone W1 fb v f B e w2) : FlowDone w fb v f B e w2 := by
  obtain ⟨h1, v', h2, h3, h4⟩ := h
  have hs := hn.size
  refine ⟨h1, v', h2, fun k hk => ?_, ?_⟩
  · rcases h3 k hk with h | h
    · exact .inl h
    · right; omega
  · exact (hn.mono (fun _ _ f => f.elim)).trans h4 (fun _ _ e => e)

theorem FlowDone.after {w w1 w2 : World} {fb : Nat} {v : Value} {f : Flow} {B : Nat} {e : Ending} (h : FlowDone w fb v f B e w1) (hn : New w1 w2) : FlowDone w fb v f B e w2 := by
  obtain ⟨h1, v', h2, h3, h4⟩ := h
  exact ⟨h1, v', h2.keep hn (fun f => f) (fun _ _ f => f), h3, h4.then hn⟩

/-- The cells of a call and of a result. -/
def nextW (w : World) (kd cn : Int) (cd : UInt8) (bv : Value) (on oe : Int) : World :=
  (w.alloc (.cells #[.int .i64 kd, .int .i64 cn, .int .u8 (cd.toNat : Int), bv] 37)).alloc (.cells #[.slice none 0 0, .int .i64 on, .int .i32 0, .bool false, .int .i64 oe] 41)
theorem nextW_new (w : World) (kd cn : Int) (cd : UInt8) (bv : Value) (on oe : Int) : New w (nextW w kd cn cd bv on oe) := ((Keep.refl _ w).alloc _).alloc _

theorem taken_err (w : World) (fb : Nat) (v : Value) (f : Flow) (B : Nat) (vx : Value) (x : List UInt8) (n : Nat) (e : Bool) (ee : Int) (hee : errN e = ee) (h : FlowAt w fb v f B) (hx : BytesAt w vx x) (T : Tk f x n e) (hl : f.all.length + x.length ≤ 140737488355328) (hr : f.room ≤ 9223372036854775807) :
    Calls Tryd.prog 30 #[.pointer (some ⟨fb, 0, none⟩), vx, .int .i64 n, .int .i64 ee] w (FlowDone w fb v (f.take x n e) B) := by
  subst hee
  exact taken_ok w fb v f B vx x n e h hx T hl hr

set_option maxRecDepth 100000 in
set_option maxHeartbeats 2000000 in
theorem next_write (w : World) (fb : Nat) (v : Value) (f : Flow) (B : Nat) (size : Nat) (cn : Int) (cd : UInt8) (bv : Value) (cb : List UInt8) (n : Nat) (e : Bool) (h : FlowAt w fb v f B) (hbv : BytesAt w bv cb) (T : Tk f cb n e) (hl : f.all.length + cb.length ≤ 140737488355328) (hr : f.room ≤ 9223372036854775807) :
    Calls Tryd.prog 17 #[.pointer (some ⟨fb, 0, none⟩), .int .i64 size, .agg #[.int .i64 0, .int .i64 cn, .int .u8 (cd.toNat : Int), bv], .agg #[.slice none 0 0, .int .i64 n, .int .i32 0, .bool false, .int .i64 (errN e)]] w (FlowDone w fb v (f.take cb n e) B) := by
  have hn := nextW_new w 0 cn cd bv n (errN e)
  have HF := Lib.hid (h.keep hn (fun f => f) (fun _ _ f => f))
  have HB := Lib.hid (hbv.new hn)
  have HT := Lib.hid T
  have HN := Lib.hid hn
  generalize hee : errN e = ee at HF HB HN ⊢
  have Hee := Lib.hid hee
  unfold nextW at HF HB HN
  clear h hbv T hn hee
  go_enter Tryd.func17, Tryd.ntmps17
  go_wp2_with fail
  rw [← Hee.out]
  refine (taken_ok _ fb v f B bv cb n e (by rw [Hee.out]; exact HF.out) (by rw [Hee.out]; exact HB.out) HT.out hl hr).mono ?_
  intro r w2 hd
  rw [Hee.out] at hd
  have hd2 := FlowDone.lift HN.out hd
  obtain ⟨rfl, hd3⟩ := hd2
  have Hd := Lib.hid hd3
  clear hd hd3
  go_wp2
  go_ret
  exact ⟨rfl, Hd.out⟩

set_option maxRecDepth 100000 in
set_option maxHeartbeats 2000000 in
theorem next_string (w : World) (fb : Nat) (v : Value) (f : Flow) (B : Nat) (size : Nat) (cn : Int) (cd : UInt8) (bv : Value) (cb : List UInt8) (n : Nat) (e : Bool) (h : FlowAt w fb v f B) (hbv : BytesAt w bv cb) (T : Tk f cb n e) (hl : f.all.length + cb.length ≤ 140737488355328) (hr : f.room ≤ 9223372036854775807) :
    Calls Tryd.prog 17 #[.pointer (some ⟨fb, 0, none⟩), .int .i64 size, .agg #[.int .i64 3, .int .i64 cn, .int .u8 (cd.toNat : Int), bv], .agg #[.slice none 0 0, .int .i64 n, .int .i32 0, .bool false, .int .i64 (errN e)]] w (FlowDone w fb v (f.take cb n e) B) := by
  have hn := nextW_new w 3 cn cd bv n (errN e)
  have HF := Lib.hid (h.keep hn (fun f => f) (fun _ _ f => f))
  have HB := Lib.hid (hbv.new hn)
  have HT := Lib.hid T
  have HN := Lib.hid hn
  generalize hee : errN e = ee at HF HB HN ⊢
  have Hee := Lib.hid hee
  unfold nextW at HF HB HN
  clear h hbv T hn hee
  go_enter Tryd.func17, Tryd.ntmps17
  go_wp2_with fail
  rw [← Hee.out]
  refine (taken_ok _ fb v f B bv cb n e (by rw [Hee.out]; exact HF.out) (by rw [Hee.out]; exact HB.out) HT.out hl hr).mono ?_
  intro r w2 hd
  rw [Hee.out] at hd
  have hd2 := FlowDone.lift HN.out hd
  obtain ⟨rfl, hd3⟩ := hd2
  have Hd := Lib.hid hd3
  clear hd hd3
  go_wp2
  go_ret
  exact ⟨rfl, Hd.out⟩

set_option maxRecDepth 100000 in
set_option maxHeartbeats 2000000 in
theorem next_byte0 (w : World) (fb : Nat) (v : Value) (f : Flow) (B : Nat) (size : Nat) (cn : Int) (cd : UInt8) (bv : Value) (cb : List UInt8) (on : Int) (h : FlowAt w fb v f B) (T : Tk f [cd] 1 false) (hl : f.all.length + 1 ≤ 140737488355328) (hr : f.room ≤ 9223372036854775807) :
    Calls Tryd.prog 17 #[.pointer (some ⟨fb, 0, none⟩), .int .i64 size, .agg #[.int .i64 1, .int .i64 cn, .int .u8 (cd.toNat : Int), bv], .agg #[.slice none 0 0, .int .i64 on, .int .i32 0, .bool false, .int .i64 0]] w (FlowDone w fb v (f.take [cd] 1 false) B) := by
  have hn : New w ((nextW w 1 cn cd bv on 0).alloc (.cells #[.int .u8 (cd.toNat : Int)] 5)) := (nextW_new w 1 cn cd bv on 0).alloc _
  have HF := Lib.hid (h.keep hn (fun f => f) (fun _ _ f => f))
  have HB : Hid (BytesAt ((nextW w 1 cn cd bv on 0).alloc (.cells #[.int .u8 (cd.toNat : Int)] 5)) (.slice (some ⟨w.heap.size + 1 + 1, 0, none⟩) 1 1) [cd]) := by
    refine ⟨some ⟨w.heap.size + 1 + 1, 0, none⟩, 1, rfl, by simp [bytesV], by unfold maxLen; omega, (fun e => by cases e), fun ad e => ?_⟩
    cases e
    intro j u hu
    rw [addr_add, Nat.zero_add]
    have h8 := cell_new (nextW w 1 cn cd bv on 0) #[.int .u8 (cd.toNat : Int)] 5 j
    have hz : (nextW w 1 cn cd bv on 0).heap.size = w.heap.size + 1 + 1 := by simp [nextW]
    rw [hz] at h8
    exact h8.trans (by simpa [bytesV, byteV] using hu)
  have HT := Lib.hid T
  have HN := Lib.hid hn
  unfold nextW at HF HB HN
  clear h T hn
  go_enter Tryd.func17, Tryd.ntmps17
  go_wp2_with fail
  refine (taken_ok _ fb v f B _ [cd] 1 false HF.out HB.out HT.out (by simpa using hl) hr).mono ?_
  intro r w2 hd
  have hd2 := FlowDone.lift HN.out hd
  obtain ⟨rfl, hd3⟩ := hd2
  have Hd := Lib.hid hd3
  clear hd hd3
  go_wp2
  go_ret
  exact ⟨rfl, Hd.out⟩

set_option maxRecDepth 100000 in
set_option maxHeartbeats 2000000 in
theorem next_byte9 (w : World) (fb : Nat) (v : Value) (f : Flow) (B : Nat) (size : Nat) (cn : Int) (cd : UInt8) (bv : Value) (cb : List UInt8) (on : Int) (h : FlowAt w fb v f B) (T : Tk f [cd] 0 true) (hl : f.all.length + 1 ≤ 140737488355328) (hr : f.room ≤ 9223372036854775807) :
    Calls Tryd.prog 17 #[.pointer (some ⟨fb, 0, none⟩), .int .i64 size, .agg #[.int .i64 1, .int .i64 cn, .int .u8 (cd.toNat : Int), bv], .agg #[.slice none 0 0, .int .i64 on, .int .i32 0, .bool false, .int .i64 9]] w (FlowDone w fb v (f.take [cd] 0 true) B) := by
  have hn : New w ((nextW w 1 cn cd bv on 9).alloc (.cells #[.int .u8 (cd.toNat : Int)] 5)) := (nextW_new w 1 cn cd bv on 9).alloc _
  have HF := Lib.hid (h.keep hn (fun f => f) (fun _ _ f => f))
  have HB : Hid (BytesAt ((nextW w 1 cn cd bv on 9).alloc (.cells #[.int .u8 (cd.toNat : Int)] 5)) (.slice (some ⟨w.heap.size + 1 + 1, 0, none⟩) 1 1) [cd]) := by
    refine ⟨some ⟨w.heap.size + 1 + 1, 0, none⟩, 1, rfl, by simp [bytesV], by unfold maxLen; omega, (fun e => by cases e), fun ad e => ?_⟩
    cases e
    intro j u hu
    rw [addr_add, Nat.zero_add]
    have h8 := cell_new (nextW w 1 cn cd bv on 9) #[.int .u8 (cd.toNat : Int)] 5 j
    have hz : (nextW w 1 cn cd bv on 9).heap.size = w.heap.size + 1 + 1 := by simp [nextW]
    rw [hz] at h8
    exact h8.trans (by simpa [bytesV, byteV] using hu)
  have HT := Lib.hid T
  have HN := Lib.hid hn
  unfold nextW at HF HB HN
  clear h T hn
  go_enter Tryd.func17, Tryd.ntmps17
  go_wp2_with fail
  refine (taken_ok _ fb v f B _ [cd] 0 true HF.out HB.out HT.out (by simpa using hl) hr).mono ?_
  intro r w2 hd
  have hd2 := FlowDone.lift HN.out hd
  obtain ⟨rfl, hd3⟩ := hd2
  have Hd := Lib.hid hd3
  clear hd hd3
  go_wp2
  go_ret
  exact ⟨rfl, Hd.out⟩

set_option maxRecDepth 100000 in
set_option maxHeartbeats 2000000 in
theorem next_rune (w : World) (fb : Nat) (v : Value) (f : Flow) (B : Nat) (size : Nat) (cn : Int) (cd : UInt8) (bv : Value) (cb : List UInt8) (n : Nat) (e : Bool) (rr : Int) (hrr : rr = i32of cn) (h : FlowAt w fb v f B) (T : Tk f (runeB rr) n e) (hl : f.all.length + 4 ≤ 140737488355328) (hr : f.room ≤ 9223372036854775807) :
    Calls Tryd.prog 17 #[.pointer (some ⟨fb, 0, none⟩), .int .i64 size, .agg #[.int .i64 2, .int .i64 cn, .int .u8 (cd.toNat : Int), bv], .agg #[.slice none 0 0, .int .i64 n, .int .i32 0, .bool false, .int .i64 (errN e)]] w (FlowDone w fb v (f.take (runeB rr) n e) B) := by
  have hn := nextW_new w 2 cn cd bv n (errN e)
  have hib := i32of_bounds cn
  rw [← hrr] at hib
  have hfb : fb < w.heap.size := (Array.getElem?_eq_some_iff.1 h.cells).1
  have hvb : ∀ i, v.ownBlock = some i → i < w.heap.size := fun i hi => (h.own.lt i hi).2
  have hz : (nextW w 2 cn cd bv n (errN e)).heap.size = w.heap.size + 1 + 1 := by simp [nextW]
  have HF := Lib.hid (h.keep hn.drew (fun f => f) (fun _ _ f => f))
  have HT := Lib.hid T
  have HN := Lib.hid hn.drew
  generalize hee : errN e = ee at HF HN hz ⊢
  have Hee := Lib.hid hee
  have x1 : (nextW w 2 cn cd bv n ee).cell? ⟨w.heap.size, 1, none⟩ = some (.int .i64 cn) := by
    have h1 := cell_new w #[.int .i64 2, .int .i64 cn, .int .u8 (cd.toNat : Int), bv] 37 1
    exact New.cellAt ((Keep.refl _ _).alloc _) (h1.trans rfl)
  have hz1 : (w.alloc (.cells #[.int .i64 2, .int .i64 cn, .int .u8 (cd.toNat : Int), bv] 37)).heap.size = w.heap.size + 1 := by simp
  have x2 : (nextW w 2 cn cd bv n ee).cell? ⟨w.heap.size + 1, 1, none⟩ = some (.int .i64 n) := by
    have h1 := cell_new (w.alloc (.cells #[.int .i64 2, .int .i64 cn, .int .u8 (cd.toNat : Int), bv] 37)) #[.slice none 0 0, .int .i64 n, .int .i32 0, .bool false, .int .i64 ee] 41 1
    rw [hz1] at h1
    exact h1.trans rfl
  have x3 : (nextW w 2 cn cd bv n ee).cell? ⟨w.heap.size + 1, 4, none⟩ = some (.int .i64 ee) := by
    have h1 := cell_new (w.alloc (.cells #[.int .i64 2, .int .i64 cn, .int .u8 (cd.toNat : Int), bv] 37)) #[.slice none 0 0, .int .i64 n, .int .i32 0, .bool false, .int .i64 ee] 41 4
    rw [hz1] at h1
    exact h1.trans rfl
  have HS := Lib.hid (fun (w' : World) (h : New (nextW w 2 cn cd bv n ee).drew w') => (show w'.cell? ⟨w.heap.size, 1, none⟩ = some (.int .i64 cn) ∧ w'.cell? ⟨w.heap.size + 1, 1, none⟩ = some (.int .i64 n) ∧ w'.cell? ⟨w.heap.size + 1, 4, none⟩ = some (.int .i64 ee) from ⟨New.cellAt h x1, New.cellAt h x2, New.cellAt h x3⟩))
  have HS2 : Hid (∀ (w' w'' : World) (r : Ending), New (nextW w 2 cn cd bv n ee).drew w' → FlowDone w' fb v (f.take (runeB rr) n e) B r w'' → (w''.cell? ⟨w.heap.size, 1, none⟩ = some (.int .i64 cn) ∧ w''.cell? ⟨w.heap.size + 1, 1, none⟩ = some (.int .i64 n) ∧ w''.cell? ⟨w.heap.size + 1, 4, none⟩ = some (.int .i64 ee))) := by
    intro w' w'' r hw hd
    obtain ⟨_, v', _, _, hk⟩ := hd
    have n0 : ¬ flowSet fb v w.heap.size := fun e => by
      rcases e with e | e
      · omega
      · have := hvb _ e; omega
    have n1 : ¬ flowSet fb v (w.heap.size + 1) := fun e => by
      rcases e with e | e
      · omega
      · have := hvb _ e; omega
    exact ⟨hk.cellAt (New.cellAt hw x1) n0, hk.cellAt (New.cellAt hw x2) n1, hk.cellAt (New.cellAt hw x3) n1⟩
  have hwa : IntKind.i32.wrap cn = rr := by rw [hrr, IntKind.wrap_i32]; unfold i32of; omega
  have hwb' : wrap32 cn = rr := by rw [hrr, wrap32_i32]
  obtain ⟨m, hm⟩ : ∃ m, (runeB rr).length = m := ⟨_, rfl⟩
  have hmb := runeB_length rr
  have Hm := Lib.hid hm
  have Hl : Hid (f.all.length + (runeB rr).length ≤ 140737488355328) := by show _ ≤ _; omega
  unfold nextW at HF HN HS HS2 x1 x2 x3
  clear h T hn hee hrr hvb hz hz1 hm hmb
  go_enter Tryd.func17, Tryd.ntmps17
  go_wp2_with fail
  go_region_held3 (fun w' => w'.cell? ⟨w.heap.size, 1, none⟩ = some (.int .i64 cn) ∧ w'.cell? ⟨w.heap.size + 1, 1, none⟩ = some (.int .i64 n) ∧ w'.cell? ⟨w.heap.size + 1, 4, none⟩ = some (.int .i64 ee))
    (first | exact ⟨x1, x2, x3⟩ | exact HS.out _ hn1 | exact HS2.out _ _ _ hn1 hd)
    (first | (go_at_call 31; (with_reducible refine (specEncoded_any _ rr hib.1 hib.2 m Hm.out).mono ?_); rintro r0 w1 ⟨eb, rfl, hb1, hB1, hn1⟩)
           | (go_at_call 30; (with_reducible refine (taken_err _ fb v f B _ (runeB rr) n e ee Hee.out (HF.out.keep hn1 (fun f => f) (fun _ _ f => f)) hB1 HT.out Hl.out hr).mono ?_); rintro r1 w2 hd; have hd1 := hd.1; subst hd1))
  rename_i hh
  have Hd := Lib.hid (FlowDone.lift (HN.out.then hn1) hd)
  clear hh HS HS2 hn1 hd hB1
  go_wp2
  go_ret
  exact Hd.out

set_option maxRecDepth 100000 in
set_option maxHeartbeats 2000000 in
theorem next_flush0 (w : World) (fb : Nat) (v : Value) (f : Flow) (B : Nat) (size : Nat) (cn : Int) (cd : UInt8) (bv : Value) (cb : List UInt8) (on : Int) (h : FlowAt w fb v f B) (hf : f.failed = false) (hle : f.all.length ≤ f.room) (hl : f.all.length ≤ 140737488355328) (hr : f.room ≤ 9223372036854775807) :
    Calls Tryd.prog 17 #[.pointer (some ⟨fb, 0, none⟩), .int .i64 size, .agg #[.int .i64 4, .int .i64 cn, .int .u8 (cd.toNat : Int), bv], .agg #[.slice none 0 0, .int .i64 on, .int .i32 0, .bool false, .int .i64 0]] w (FlowDone w fb v (f.flush false) B) := by
  obtain ⟨room, all, failed, flushed⟩ := f
  obtain ⟨h0, hown, hne, hB⟩ := h
  obtain ⟨ag, cg, rfl⟩ := ownsRow_slice hown
  simp only at h0 hown hne hf hle hl hr
  generalize hna : all.length = na at h0 hown hne hf hle hl hr ⊢
  have hn := nextW_new w 4 cn cd bv on 0
  have HN := Lib.hid hn
  have hlt : fb < w.heap.size := (Array.getElem?_eq_some_iff.1 h0).1
  have H0 : Hid ((nextW w 4 cn cd bv on 0).heap[fb]? = some (.cells #[.int .i64 room, .slice ag na cg, .bool failed, .int .i64 flushed] 52 (0, 0))) := (hn.block fb hlt (fun f => f)).trans h0
  have HO : Hid ((nextW w 4 cn cd bv on 0).ownsRow B 5 1 (.slice ag na cg) na (bytesV all)) := ownsRow_keep hown hn (fun _ _ f => f)
  have c0 := cell_of (o := 0) H0.out rfl
  have c1 := cell_of (o := 1) H0.out rfl
  have c2 := cell_of (o := 2) H0.out rfl
  have c3 := cell_of (o := 3) H0.out rfl
  have f2 := frozen_of (o := 2) H0.out
  have f3 := frozen_of (o := 3) H0.out
  have Hna := Lib.hid hna
  have Hne := Lib.hid hne
  have HW0 := Lib.hid h0
  have HOW := Lib.hid hown
  have Hlt := Lib.hid hlt
  have hne0 : ¬ fb = w.heap.size := by omega
  have hne1 : ¬ fb = w.heap.size + 1 := by omega
  have hne2 : ¬ w.heap.size = fb := by omega
  have hne3 : ¬ w.heap.size + 1 = fb := by omega
  unfold nextW at H0 HO HN c0 c1 c2 c3 f2 f3
  clear h0 hown hne hn hna
  subst hf
  have hle' : (na : Int) ≤ room := by omega
  go_enter Tryd.func17, Tryd.ntmps17
  go_wp2
  have hn' : New (World.setCell w ⟨fb, 3, none⟩ (.int .i64 na)) (((World.setCell w ⟨fb, 3, none⟩ (.int .i64 na)).alloc (.cells #[.int .i64 4, .int .i64 cn, .int .u8 (cd.toNat : Int), bv] 37)).alloc (.cells #[.slice none 0 0, .int .i64 on, .int .i32 0, .bool false, .int .i64 0] 41)) := ((Keep.refl _ _).alloc _).alloc _
  have hs3 := heap_set (o := 3) HW0.out (.int .i64 na)
  have hkw : Keep (fun i => i = fb) w (World.setCell w ⟨fb, 3, none⟩ (.int .i64 na)) := (Keep.refl _ _).set1 3 _
  have H3 : Hid ((((World.setCell w ⟨fb, 3, none⟩ (.int .i64 na)).alloc (.cells #[.int .i64 4, .int .i64 cn, .int .u8 (cd.toNat : Int), bv] 37)).alloc (.cells #[.slice none 0 0, .int .i64 on, .int .i32 0, .bool false, .int .i64 0] 41)).heap[fb]? = some (.cells #[.int .i64 room, .slice ag na cg, .bool false, .int .i64 na] 52 (0, 0))) := (hn'.block fb (Array.getElem?_eq_some_iff.1 hs3).1 (fun f => f)).trans (hs3.trans (by simp))
  have HO3 : Hid ((((World.setCell w ⟨fb, 3, none⟩ (.int .i64 na)).alloc (.cells #[.int .i64 4, .int .i64 cn, .int .u8 (cd.toNat : Int), bv] 37)).alloc (.cells #[.slice none 0 0, .int .i64 on, .int .i32 0, .bool false, .int .i64 0] 41)).ownsRow B 5 1 (.slice ag na cg) na (bytesV all)) := ownsRow_keep (ownsRow_keep HOW.out hkw (fun i hi e => Hne.out (e ▸ hi))) hn' (fun _ _ f => f)
  have HK : Hid (Keep (flowSet fb (.slice ag na cg)) w (((World.setCell w ⟨fb, 3, none⟩ (.int .i64 na)).alloc (.cells #[.int .i64 4, .int .i64 cn, .int .u8 (cd.toNat : Int), bv] 37)).alloc (.cells #[.slice none 0 0, .int .i64 on, .int .i32 0, .bool false, .int .i64 0] 41))) := (((Keep.refl _ w).setCell (.inl (.inl rfl)) _).alloc _).alloc _
  have r0 := cell_of (o := 0) H3.out rfl
  have r1 := cell_of (o := 1) H3.out rfl
  have r2 := cell_of (o := 2) H3.out rfl
  clear hn' hs3 hkw
  generalize (((World.setCell w ⟨fb, 3, none⟩ (.int .i64 na)).alloc (.cells #[.int .i64 4, .int .i64 cn, .int .u8 (cd.toNat : Int), bv] 37)).alloc (.cells #[.slice none 0 0, .int .i64 on, .int .i32 0, .bool false, .int .i64 0] 41)) = w3 at H3 HO3 HK r0 r1 r2 ⊢
  clear H0 HO HN c0 c1 c2 c3 f2 f3
  go_region
  go_wp2
  go_ret
  refine ⟨by first | rfl | simp [hle'], _, ⟨?_, ?_, Hne.out, hB⟩, fun k hk => .inl hk, HK.out.drew⟩
  · show w3.heap[fb]? = _
    rw [H3.out]; simp [Flow.flush, Hna.out]
  · show World.ownsRow w3 B _ 1 _ all.length (bytesV all)
    rw [Hna.out]; exact HO3.out

set_option maxRecDepth 100000 in
set_option maxHeartbeats 2000000 in
theorem next_flush9a (w : World) (fb : Nat) (v : Value) (f : Flow) (B : Nat) (size : Nat) (cn : Int) (cd : UInt8) (bv : Value) (cb : List UInt8) (on : Int) (h : FlowAt w fb v f B) (hf : f.failed = true) (hl : f.all.length ≤ 140737488355328) (hr : f.room ≤ 9223372036854775807) :
    Calls Tryd.prog 17 #[.pointer (some ⟨fb, 0, none⟩), .int .i64 size, .agg #[.int .i64 4, .int .i64 cn, .int .u8 (cd.toNat : Int), bv], .agg #[.slice none 0 0, .int .i64 on, .int .i32 0, .bool false, .int .i64 9]] w (FlowDone w fb v (f.flush true) B) := by
  obtain ⟨room, all, failed, flushed⟩ := f
  obtain ⟨h0, hown, hne, hB⟩ := h
  obtain ⟨ag, cg, rfl⟩ := ownsRow_slice hown
  simp only at h0 hown hne hf hl hr
  generalize hna : all.length = na at h0 hown hne hf hl hr ⊢
  have hn := nextW_new w 4 cn cd bv on 9
  have HN := Lib.hid hn
  have hlt : fb < w.heap.size := (Array.getElem?_eq_some_iff.1 h0).1
  have H0 : Hid ((nextW w 4 cn cd bv on 9).heap[fb]? = some (.cells #[.int .i64 room, .slice ag na cg, .bool failed, .int .i64 flushed] 52 (0, 0))) := (hn.block fb hlt (fun f => f)).trans h0
  have HO : Hid ((nextW w 4 cn cd bv on 9).ownsRow B 5 1 (.slice ag na cg) na (bytesV all)) := ownsRow_keep hown hn (fun _ _ f => f)
  have c0 := cell_of (o := 0) H0.out rfl
  have c1 := cell_of (o := 1) H0.out rfl
  have c2 := cell_of (o := 2) H0.out rfl
  have c3 := cell_of (o := 3) H0.out rfl
  have f2 := frozen_of (o := 2) H0.out
  have f3 := frozen_of (o := 3) H0.out
  have Hna := Lib.hid hna
  have Hne := Lib.hid hne
  have HW0 := Lib.hid h0
  have HOW := Lib.hid hown
  have Hlt := Lib.hid hlt
  have hne0 : ¬ fb = w.heap.size := by omega
  have hne1 : ¬ fb = w.heap.size + 1 := by omega
  have hne2 : ¬ w.heap.size = fb := by omega
  have hne3 : ¬ w.heap.size + 1 = fb := by omega
  unfold nextW at H0 HO HN c0 c1 c2 c3 f2 f3
  clear h0 hown hne hn hna
  subst hf
  go_enter Tryd.func17, Tryd.ntmps17
  go_wp2
  go_region
  have hn' : New (World.setCell w ⟨fb, 2, none⟩ (.bool true)) (((World.setCell w ⟨fb, 2, none⟩ (.bool true)).alloc (.cells #[.int .i64 4, .int .i64 cn, .int .u8 (cd.toNat : Int), bv] 37)).alloc (.cells #[.slice none 0 0, .int .i64 on, .int .i32 0, .bool false, .int .i64 9] 41)) := ((Keep.refl _ _).alloc _).alloc _
  have hs3 := heap_set (o := 2) HW0.out (.bool true)
  have hkw : Keep (fun i => i = fb) w (World.setCell w ⟨fb, 2, none⟩ (.bool true)) := (Keep.refl _ _).set1 2 _
  have H3 : Hid ((((World.setCell w ⟨fb, 2, none⟩ (.bool true)).alloc (.cells #[.int .i64 4, .int .i64 cn, .int .u8 (cd.toNat : Int), bv] 37)).alloc (.cells #[.slice none 0 0, .int .i64 on, .int .i32 0, .bool false, .int .i64 9] 41)).heap[fb]? = some (.cells #[.int .i64 room, .slice ag na cg, .bool true, .int .i64 flushed] 52 (0, 0))) := (hn'.block fb (Array.getElem?_eq_some_iff.1 hs3).1 (fun f => f)).trans (hs3.trans (by simp))
  have HO3 : Hid ((((World.setCell w ⟨fb, 2, none⟩ (.bool true)).alloc (.cells #[.int .i64 4, .int .i64 cn, .int .u8 (cd.toNat : Int), bv] 37)).alloc (.cells #[.slice none 0 0, .int .i64 on, .int .i32 0, .bool false, .int .i64 9] 41)).ownsRow B 5 1 (.slice ag na cg) na (bytesV all)) := ownsRow_keep (ownsRow_keep HOW.out hkw (fun i hi e => Hne.out (e ▸ hi))) hn' (fun _ _ f => f)
  have HK2 : Hid (Keep (flowSet fb (.slice ag na cg)) w (((World.setCell w ⟨fb, 2, none⟩ (.bool true)).alloc (.cells #[.int .i64 4, .int .i64 cn, .int .u8 (cd.toNat : Int), bv] 37)).alloc (.cells #[.slice none 0 0, .int .i64 on, .int .i32 0, .bool false, .int .i64 9] 41))) := (((Keep.refl _ w).setCell (.inl (.inl rfl)) _).alloc _).alloc _
  clear hn' hs3 hkw
  clear H0 HO HN
  go_wp2
  go_ret
  refine ⟨by first | rfl | simp, _, ⟨?_, ?_, Hne.out, hB⟩, fun k hk => .inl hk, by first | exact HK2.out.drew | exact HK2.out⟩
  · exact H3.out
  · show World.ownsRow _ B _ 1 _ all.length (bytesV all)
    rw [Hna.out]; exact HO3.out

set_option maxRecDepth 100000 in
set_option maxHeartbeats 2000000 in
theorem next_flush9b (w : World) (fb : Nat) (v : Value) (f : Flow) (B : Nat) (size : Nat) (cn : Int) (cd : UInt8) (bv : Value) (cb : List UInt8) (on : Int) (h : FlowAt w fb v f B) (hf : f.failed = false) (hgt : f.room < f.all.length) (hl : f.all.length ≤ 140737488355328) (hr : f.room ≤ 9223372036854775807) :
    Calls Tryd.prog 17 #[.pointer (some ⟨fb, 0, none⟩), .int .i64 size, .agg #[.int .i64 4, .int .i64 cn, .int .u8 (cd.toNat : Int), bv], .agg #[.slice none 0 0, .int .i64 on, .int .i32 0, .bool false, .int .i64 9]] w (FlowDone w fb v (f.flush true) B) := by
  obtain ⟨room, all, failed, flushed⟩ := f
  obtain ⟨h0, hown, hne, hB⟩ := h
  obtain ⟨ag, cg, rfl⟩ := ownsRow_slice hown
  simp only at h0 hown hne hf hgt hl hr
  generalize hna : all.length = na at h0 hown hne hf hgt hl hr ⊢
  have hn := nextW_new w 4 cn cd bv on 9
  have HN := Lib.hid hn
  have hlt : fb < w.heap.size := (Array.getElem?_eq_some_iff.1 h0).1
  have H0 : Hid ((nextW w 4 cn cd bv on 9).heap[fb]? = some (.cells #[.int .i64 room, .slice ag na cg, .bool failed, .int .i64 flushed] 52 (0, 0))) := (hn.block fb hlt (fun f => f)).trans h0
  have HO : Hid ((nextW w 4 cn cd bv on 9).ownsRow B 5 1 (.slice ag na cg) na (bytesV all)) := ownsRow_keep hown hn (fun _ _ f => f)
  have c0 := cell_of (o := 0) H0.out rfl
  have c1 := cell_of (o := 1) H0.out rfl
  have c2 := cell_of (o := 2) H0.out rfl
  have c3 := cell_of (o := 3) H0.out rfl
  have f2 := frozen_of (o := 2) H0.out
  have f3 := frozen_of (o := 3) H0.out
  have Hna := Lib.hid hna
  have Hne := Lib.hid hne
  have HW0 := Lib.hid h0
  have HOW := Lib.hid hown
  have Hlt := Lib.hid hlt
  have hne0 : ¬ fb = w.heap.size := by omega
  have hne1 : ¬ fb = w.heap.size + 1 := by omega
  have hne2 : ¬ w.heap.size = fb := by omega
  have hne3 : ¬ w.heap.size + 1 = fb := by omega
  unfold nextW at H0 HO HN c0 c1 c2 c3 f2 f3
  clear h0 hown hne hn hna
  subst hf
  have hgt' : (room : Int) < na := by omega
  go_enter Tryd.func17, Tryd.ntmps17
  go_wp2
  go_region
  have hn' : New (World.setCell w ⟨fb, 2, none⟩ (.bool true)) (((World.setCell w ⟨fb, 2, none⟩ (.bool true)).alloc (.cells #[.int .i64 4, .int .i64 cn, .int .u8 (cd.toNat : Int), bv] 37)).alloc (.cells #[.slice none 0 0, .int .i64 on, .int .i32 0, .bool false, .int .i64 9] 41)) := ((Keep.refl _ _).alloc _).alloc _
  have hs3 := heap_set (o := 2) HW0.out (.bool true)
  have hkw : Keep (fun i => i = fb) w (World.setCell w ⟨fb, 2, none⟩ (.bool true)) := (Keep.refl _ _).set1 2 _
  have H3 : Hid ((((World.setCell w ⟨fb, 2, none⟩ (.bool true)).alloc (.cells #[.int .i64 4, .int .i64 cn, .int .u8 (cd.toNat : Int), bv] 37)).alloc (.cells #[.slice none 0 0, .int .i64 on, .int .i32 0, .bool false, .int .i64 9] 41)).heap[fb]? = some (.cells #[.int .i64 room, .slice ag na cg, .bool true, .int .i64 flushed] 52 (0, 0))) := (hn'.block fb (Array.getElem?_eq_some_iff.1 hs3).1 (fun f => f)).trans (hs3.trans (by simp))
  have HO3 : Hid ((((World.setCell w ⟨fb, 2, none⟩ (.bool true)).alloc (.cells #[.int .i64 4, .int .i64 cn, .int .u8 (cd.toNat : Int), bv] 37)).alloc (.cells #[.slice none 0 0, .int .i64 on, .int .i32 0, .bool false, .int .i64 9] 41)).ownsRow B 5 1 (.slice ag na cg) na (bytesV all)) := ownsRow_keep (ownsRow_keep HOW.out hkw (fun i hi e => Hne.out (e ▸ hi))) hn' (fun _ _ f => f)
  have HK2 : Hid (Keep (flowSet fb (.slice ag na cg)) w (((World.setCell w ⟨fb, 2, none⟩ (.bool true)).alloc (.cells #[.int .i64 4, .int .i64 cn, .int .u8 (cd.toNat : Int), bv] 37)).alloc (.cells #[.slice none 0 0, .int .i64 on, .int .i32 0, .bool false, .int .i64 9] 41))) := (((Keep.refl _ w).setCell (.inl (.inl rfl)) _).alloc _).alloc _
  clear hn' hs3 hkw
  clear H0 HO HN
  go_wp2
  go_ret
  refine ⟨by first | rfl | simp, _, ⟨?_, ?_, Hne.out, hB⟩, fun k hk => .inl hk, by first | exact HK2.out.drew | exact HK2.out⟩
  · exact H3.out
  · show World.ownsRow _ B _ 1 _ all.length (bytesV all)
    rw [Hna.out]; exact HO3.out

set_option maxRecDepth 100000 in
set_option maxHeartbeats 2000000 in
theorem next_avail_true (w : World) (fb : Nat) (v : Value) (f : Flow) (B : Nat) (size : Nat) (cn : Int) (cd : UInt8) (bv : Value) (cb : List UInt8) (on oe : Int) (h : FlowAt w fb v f B) (hf : f.failed = true) (h1 : 0 ≤ on) (h2 : on ≤ size) (hs : size ≤ 32767) (hl : f.all.length ≤ 140737488355328) :
    Calls Tryd.prog 17 #[.pointer (some ⟨fb, 0, none⟩), .int .i64 size, .agg #[.int .i64 5, .int .i64 cn, .int .u8 (cd.toNat : Int), bv], .agg #[.slice none 0 0, .int .i64 on, .int .i32 0, .bool false, .int .i64 oe]] w (FlowDone w fb v f B) := by
  obtain ⟨room, all, failed, flushed⟩ := f
  obtain ⟨h0, hown, hne, hB⟩ := h
  obtain ⟨ag, cg, rfl⟩ := ownsRow_slice hown
  simp only at h0 hown hne hf hl
  generalize hna : all.length = na at h0 hown hne hf hl ⊢
  have hn := nextW_new w 5 cn cd bv on oe
  have HN := Lib.hid hn
  have hlt : fb < w.heap.size := (Array.getElem?_eq_some_iff.1 h0).1
  have H0 : Hid ((nextW w 5 cn cd bv on oe).heap[fb]? = some (.cells #[.int .i64 room, .slice ag na cg, .bool failed, .int .i64 flushed] 52 (0, 0))) := (hn.block fb hlt (fun f => f)).trans h0
  have HO : Hid ((nextW w 5 cn cd bv on oe).ownsRow B 5 1 (.slice ag na cg) na (bytesV all)) := ownsRow_keep hown hn (fun _ _ f => f)
  have c0 := cell_of (o := 0) H0.out rfl
  have c1 := cell_of (o := 1) H0.out rfl
  have c2 := cell_of (o := 2) H0.out rfl
  have c3 := cell_of (o := 3) H0.out rfl
  have f2 := frozen_of (o := 2) H0.out
  have f3 := frozen_of (o := 3) H0.out
  have Hna := Lib.hid hna
  have Hne := Lib.hid hne
  have HW0 := Lib.hid h0
  have HOW := Lib.hid hown
  have Hlt := Lib.hid hlt
  have hne0 : ¬ fb = w.heap.size := by omega
  have hne1 : ¬ fb = w.heap.size + 1 := by omega
  have hne2 : ¬ w.heap.size = fb := by omega
  have hne3 : ¬ w.heap.size + 1 = fb := by omega
  unfold nextW at H0 HO HN c0 c1 c2 c3 f2 f3
  clear h0 hown hne hn hna
  subst hf
  have h1' : ¬ on < 0 := by omega
  go_enter Tryd.func17, Tryd.ntmps17
  go_wp2
  go_region
  go_wp2
  go_ret
  refine ⟨by first | rfl | simp, _, ⟨H0.out, ?_, Hne.out, hB⟩, fun k hk => .inl hk, (HN.out.mono (fun _ _ f => f.elim)).drew⟩
  show World.ownsRow _ B _ 1 _ all.length (bytesV all)
  rw [Hna.out]; exact HO.out

set_option maxRecDepth 100000 in
set_option maxHeartbeats 2000000 in
theorem next_avail_false (w : World) (fb : Nat) (v : Value) (f : Flow) (B : Nat) (size : Nat) (cn : Int) (cd : UInt8) (bv : Value) (cb : List UInt8) (on oe : Int) (h : FlowAt w fb v f B) (hf : f.failed = false) (hle : (size : Int) - on ≤ (f.all.length : Int) - f.flushed) (hff : f.flushed ≤ 140737488355328) (h1 : 0 ≤ on) (h2 : on ≤ size) (hs : size ≤ 32767) (hl : f.all.length ≤ 140737488355328) :
    Calls Tryd.prog 17 #[.pointer (some ⟨fb, 0, none⟩), .int .i64 size, .agg #[.int .i64 5, .int .i64 cn, .int .u8 (cd.toNat : Int), bv], .agg #[.slice none 0 0, .int .i64 on, .int .i32 0, .bool false, .int .i64 oe]] w (FlowDone w fb v f B) := by
  obtain ⟨room, all, failed, flushed⟩ := f
  obtain ⟨h0, hown, hne, hB⟩ := h
  obtain ⟨ag, cg, rfl⟩ := ownsRow_slice hown
  simp only at h0 hown hne hf hle hff hl
  generalize hna : all.length = na at h0 hown hne hf hle hff hl ⊢
  have hn := nextW_new w 5 cn cd bv on oe
  have HN := Lib.hid hn
  have hlt : fb < w.heap.size := (Array.getElem?_eq_some_iff.1 h0).1
  have H0 : Hid ((nextW w 5 cn cd bv on oe).heap[fb]? = some (.cells #[.int .i64 room, .slice ag na cg, .bool failed, .int .i64 flushed] 52 (0, 0))) := (hn.block fb hlt (fun f => f)).trans h0
  have HO : Hid ((nextW w 5 cn cd bv on oe).ownsRow B 5 1 (.slice ag na cg) na (bytesV all)) := ownsRow_keep hown hn (fun _ _ f => f)
  have c0 := cell_of (o := 0) H0.out rfl
  have c1 := cell_of (o := 1) H0.out rfl
  have c2 := cell_of (o := 2) H0.out rfl
  have c3 := cell_of (o := 3) H0.out rfl
  have f2 := frozen_of (o := 2) H0.out
  have f3 := frozen_of (o := 3) H0.out
  have Hna := Lib.hid hna
  have Hne := Lib.hid hne
  have HW0 := Lib.hid h0
  have HOW := Lib.hid hown
  have Hlt := Lib.hid hlt
  have hne0 : ¬ fb = w.heap.size := by omega
  have hne1 : ¬ fb = w.heap.size + 1 := by omega
  have hne2 : ¬ w.heap.size = fb := by omega
  have hne3 : ¬ w.heap.size + 1 = fb := by omega
  unfold nextW at H0 HO HN c0 c1 c2 c3 f2 f3
  clear h0 hown hne hn hna
  subst hf
  have h1' : ¬ on < 0 := by omega
  go_enter Tryd.func17, Tryd.ntmps17
  go_wp2
  go_region
  go_wp2
  go_ret
  refine ⟨by first | rfl | simp, _, ⟨H0.out, ?_, Hne.out, hB⟩, fun k hk => .inl hk, (HN.out.mono (fun _ _ f => f.elim)).drew⟩
  show World.ownsRow _ B _ 1 _ all.length (bytesV all)
  rw [Hna.out]; exact HO.out

set_option maxRecDepth 100000 in
set_option maxHeartbeats 2000000 in
theorem next_buffered_true (w : World) (fb : Nat) (v : Value) (f : Flow) (B : Nat) (size : Nat) (cn : Int) (cd : UInt8) (bv : Value) (cb : List UInt8) (on oe : Int) (h : FlowAt w fb v f B) (hf : f.failed = true) (h1 : 0 ≤ on) (h2 : on ≤ size) (hs : size ≤ 32767) (hl : f.all.length ≤ 140737488355328) :
    Calls Tryd.prog 17 #[.pointer (some ⟨fb, 0, none⟩), .int .i64 size, .agg #[.int .i64 6, .int .i64 cn, .int .u8 (cd.toNat : Int), bv], .agg #[.slice none 0 0, .int .i64 on, .int .i32 0, .bool false, .int .i64 oe]] w (FlowDone w fb v f B) := by
  obtain ⟨room, all, failed, flushed⟩ := f
  obtain ⟨h0, hown, hne, hB⟩ := h
  obtain ⟨ag, cg, rfl⟩ := ownsRow_slice hown
  simp only at h0 hown hne hf hl
  generalize hna : all.length = na at h0 hown hne hf hl ⊢
  have hn := nextW_new w 6 cn cd bv on oe
  have HN := Lib.hid hn
  have hlt : fb < w.heap.size := (Array.getElem?_eq_some_iff.1 h0).1
  have H0 : Hid ((nextW w 6 cn cd bv on oe).heap[fb]? = some (.cells #[.int .i64 room, .slice ag na cg, .bool failed, .int .i64 flushed] 52 (0, 0))) := (hn.block fb hlt (fun f => f)).trans h0
  have HO : Hid ((nextW w 6 cn cd bv on oe).ownsRow B 5 1 (.slice ag na cg) na (bytesV all)) := ownsRow_keep hown hn (fun _ _ f => f)
  have c0 := cell_of (o := 0) H0.out rfl
  have c1 := cell_of (o := 1) H0.out rfl
  have c2 := cell_of (o := 2) H0.out rfl
  have c3 := cell_of (o := 3) H0.out rfl
  have f2 := frozen_of (o := 2) H0.out
  have f3 := frozen_of (o := 3) H0.out
  have Hna := Lib.hid hna
  have Hne := Lib.hid hne
  have HW0 := Lib.hid h0
  have HOW := Lib.hid hown
  have Hlt := Lib.hid hlt
  have hne0 : ¬ fb = w.heap.size := by omega
  have hne1 : ¬ fb = w.heap.size + 1 := by omega
  have hne2 : ¬ w.heap.size = fb := by omega
  have hne3 : ¬ w.heap.size + 1 = fb := by omega
  unfold nextW at H0 HO HN c0 c1 c2 c3 f2 f3
  clear h0 hown hne hn hna
  subst hf
  have h1' : ¬ on < 0 := by omega
  go_enter Tryd.func17, Tryd.ntmps17
  go_wp2
  go_region
  go_wp2
  go_ret
  refine ⟨by first | rfl | simp, _, ⟨H0.out, ?_, Hne.out, hB⟩, fun k hk => .inl hk, (HN.out.mono (fun _ _ f => f.elim)).drew⟩
  show World.ownsRow _ B _ 1 _ all.length (bytesV all)
  rw [Hna.out]; exact HO.out

set_option maxRecDepth 100000 in
set_option maxHeartbeats 2000000 in
theorem next_buffered_false (w : World) (fb : Nat) (v : Value) (f : Flow) (B : Nat) (size : Nat) (cn : Int) (cd : UInt8) (bv : Value) (cb : List UInt8) (on oe : Int) (h : FlowAt w fb v f B) (hf : f.failed = false) (hle : on ≤ (f.all.length : Int) - f.flushed) (hff : f.flushed ≤ 140737488355328) (h1 : 0 ≤ on) (h2 : on ≤ size) (hs : size ≤ 32767) (hl : f.all.length ≤ 140737488355328) :
    Calls Tryd.prog 17 #[.pointer (some ⟨fb, 0, none⟩), .int .i64 size, .agg #[.int .i64 6, .int .i64 cn, .int .u8 (cd.toNat : Int), bv], .agg #[.slice none 0 0, .int .i64 on, .int .i32 0, .bool false, .int .i64 oe]] w (FlowDone w fb v f B) := by
  obtain ⟨room, all, failed, flushed⟩ := f
  obtain ⟨h0, hown, hne, hB⟩ := h
  obtain ⟨ag, cg, rfl⟩ := ownsRow_slice hown
  simp only at h0 hown hne hf hle hff hl
  generalize hna : all.length = na at h0 hown hne hf hle hff hl ⊢
  have hn := nextW_new w 6 cn cd bv on oe
  have HN := Lib.hid hn
  have hlt : fb < w.heap.size := (Array.getElem?_eq_some_iff.1 h0).1
  have H0 : Hid ((nextW w 6 cn cd bv on oe).heap[fb]? = some (.cells #[.int .i64 room, .slice ag na cg, .bool failed, .int .i64 flushed] 52 (0, 0))) := (hn.block fb hlt (fun f => f)).trans h0
  have HO : Hid ((nextW w 6 cn cd bv on oe).ownsRow B 5 1 (.slice ag na cg) na (bytesV all)) := ownsRow_keep hown hn (fun _ _ f => f)
  have c0 := cell_of (o := 0) H0.out rfl
  have c1 := cell_of (o := 1) H0.out rfl
  have c2 := cell_of (o := 2) H0.out rfl
  have c3 := cell_of (o := 3) H0.out rfl
  have f2 := frozen_of (o := 2) H0.out
  have f3 := frozen_of (o := 3) H0.out
  have Hna := Lib.hid hna
  have Hne := Lib.hid hne
  have HW0 := Lib.hid h0
  have HOW := Lib.hid hown
  have Hlt := Lib.hid hlt
  have hne0 : ¬ fb = w.heap.size := by omega
  have hne1 : ¬ fb = w.heap.size + 1 := by omega
  have hne2 : ¬ w.heap.size = fb := by omega
  have hne3 : ¬ w.heap.size + 1 = fb := by omega
  unfold nextW at H0 HO HN c0 c1 c2 c3 f2 f3
  clear h0 hown hne hn hna
  subst hf
  have h1' : ¬ on < 0 := by omega
  go_enter Tryd.func17, Tryd.ntmps17
  go_wp2
  go_region
  go_wp2
  go_ret
  refine ⟨by first | rfl | simp, _, ⟨H0.out, ?_, Hne.out, hB⟩, fun k hk => .inl hk, (HN.out.mono (fun _ _ f => f.elim)).drew⟩
  show World.ownsRow _ B _ 1 _ all.length (bytesV all)
  rw [Hna.out]; exact HO.out

set_option maxRecDepth 100000 in
set_option maxHeartbeats 2000000 in
theorem next_other (w : World) (fb : Nat) (v : Value) (f : Flow) (B : Nat) (size : Nat) (cn : Int) (cd : UInt8) (bv : Value) (cb : List UInt8) (kd on oe : Int) (h : FlowAt w fb v f B) (hk : kd < 0 ∨ 6 < kd) :
    Calls Tryd.prog 17 #[.pointer (some ⟨fb, 0, none⟩), .int .i64 size, .agg #[.int .i64 kd, .int .i64 cn, .int .u8 (cd.toNat : Int), bv], .agg #[.slice none 0 0, .int .i64 on, .int .i32 0, .bool false, .int .i64 oe]] w (FlowDone w fb v f B) := by
  have hn := nextW_new w kd cn cd bv on oe
  have HD : Hid (FlowDone w fb v f B (.returned (.bool true)) (nextW w kd cn cd bv on oe)) := ⟨rfl, v, h.keep hn (fun f => f) (fun _ _ f => f), fun k hk => .inl hk, hn.mono (fun _ _ f => f.elim)⟩
  have b0 : (kd == 0) = false := by simp; omega
  have b1 : (kd == 1) = false := by simp; omega
  have b2 : (kd == 2) = false := by simp; omega
  have b3 : (kd == 3) = false := by simp; omega
  have b4 : (kd == 4) = false := by simp; omega
  have b5 : (kd == 5) = false := by simp; omega
  have b6 : (kd == 6) = false := by simp; omega
  have d0 : ¬ kd = 0 := by omega
  have d1 : ¬ kd = 1 := by omega
  have d2 : ¬ kd = 2 := by omega
  have d3 : ¬ kd = 3 := by omega
  have d4 : ¬ kd = 4 := by omega
  have d5 : ¬ kd = 5 := by omega
  have d6 : ¬ kd = 6 := by omega
  clear h hk hn
  go_enter Tryd.func17, Tryd.ntmps17
  go_wp2
  go_ret
  exact HD.out

theorem next_rest5 (w : World) (fb : Nat) (v : Value) (f : Flow) (B : Nat) (size : Nat) (cn : Int) (cd : UInt8) (bv : Value) (cb : List UInt8) (on oe : Int) (h : FlowAt w fb v f B) (h1 : 0 ≤ on) (h2 : on ≤ size) (h3 : f.failed = false → (size : Int) - on ≤ (f.all.length : Int) - f.flushed) (hs : size ≤ 32767) (hl : f.all.length ≤ 140737488355328) (hff : f.flushed ≤ 140737488355328) :
    Calls Tryd.prog 17 #[.pointer (some ⟨fb, 0, none⟩), .int .i64 size, .agg #[.int .i64 5, .int .i64 cn, .int .u8 (cd.toNat : Int), bv], .agg #[.slice none 0 0, .int .i64 on, .int .i32 0, .bool false, .int .i64 oe]] w (FlowDone w fb v f B) := by
  cases hf : f.failed with
  | true => exact next_avail_true w fb v f B size cn cd bv cb on oe h hf h1 h2 hs hl
  | false => exact next_avail_false w fb v f B size cn cd bv cb on oe h hf (h3 hf) hff h1 h2 hs hl

theorem next_rest6 (w : World) (fb : Nat) (v : Value) (f : Flow) (B : Nat) (size : Nat) (cn : Int) (cd : UInt8) (bv : Value) (cb : List UInt8) (on oe : Int) (h : FlowAt w fb v f B) (h1 : 0 ≤ on) (h2 : on ≤ size) (h3 : f.failed = false → on ≤ (f.all.length : Int) - f.flushed) (hs : size ≤ 32767) (hl : f.all.length ≤ 140737488355328) (hff : f.flushed ≤ 140737488355328) :
    Calls Tryd.prog 17 #[.pointer (some ⟨fb, 0, none⟩), .int .i64 size, .agg #[.int .i64 6, .int .i64 cn, .int .u8 (cd.toNat : Int), bv], .agg #[.slice none 0 0, .int .i64 on, .int .i32 0, .bool false, .int .i64 oe]] w (FlowDone w fb v f B) := by
  cases hf : f.failed with
  | true => exact next_buffered_true w fb v f B size cn cd bv cb on oe h hf h1 h2 hs hl
  | false => exact next_buffered_false w fb v f B size cn cd bv cb on oe h hf (h3 hf) hff h1 h2 hs hl

/-- next, where the documentation allows what a call returns. -/
theorem next_ok (w : World) (fb : Nat) (v : Value) (f : Flow) (B : Nat) (size : Nat) (c : CallR) (ou : OutW) (bv : Value) (h : FlowAt w fb v f B) (hbv : BytesAt w bv c.bytes) (N : NextOk f size c ou) (hs : size ≤ 32767) (hl : f.all.length + (c.bytes.length + 4) ≤ 140737488355328) (hr : f.room ≤ 9223372036854775807) (hff : f.flushed ≤ 140737488355328) :
    Calls Tryd.prog 17 #[.pointer (some ⟨fb, 0, none⟩), .int .i64 size, .agg #[.int .i64 c.kind, .int .i64 c.n, .int .u8 (c.delim.toNat : Int), bv], .agg #[.slice none 0 0, .int .i64 ou.n, .int .i32 0, .bool false, .int .i64 ou.err]] w (FlowDone w fb v (f.next c ou) B) := by
  obtain ⟨kd, cn, cd, cb⟩ := c
  obtain ⟨on, oe⟩ := ou
  obtain ⟨q1, q2, q3, q4, q5, q6, q7, q8⟩ := N
  simp only at hbv q1 q2 q3 q4 q5 q6 q7 q8 hl
  unfold Flow.next
  simp only
  obtain ⟨e, rfl⟩ : ∃ e, oe = errN e := by
    rcases q1 with rfl | rfl
    · exact ⟨false, rfl⟩
    · exact ⟨true, rfl⟩
  simp only [errN_ne] at q2 q3 q4 ⊢
  by_cases k0 : kd = 0
  · subst k0
    obtain ⟨n, rfl, T⟩ := q2 (.inl rfl)
    rw [if_pos (.inl rfl), Int.toNat_natCast]
    exact next_write w fb v f B size cn cd bv cb n e h hbv T (by omega) hr
  by_cases k3 : kd = 3
  · subst k3
    obtain ⟨n, rfl, T⟩ := q2 (.inr rfl)
    rw [if_pos (.inr rfl), Int.toNat_natCast]
    exact next_string w fb v f B size cn cd bv cb n e h hbv T (by omega) hr
  rw [if_neg (by omega)]
  by_cases k1 : kd = 1
  · subst k1
    rw [if_pos rfl]
    have T := q3 rfl
    cases e with
    | false => exact next_byte0 w fb v f B size cn cd bv cb on h T (by omega) hr
    | true => exact next_byte9 w fb v f B size cn cd bv cb on h T (by omega) hr
  rw [if_neg k1]
  by_cases k2 : kd = 2
  · subst k2
    obtain ⟨n, rfl, T⟩ := q4 rfl
    rw [if_pos rfl, Int.toNat_natCast]
    exact next_rune w fb v f B size cn cd bv cb n e _ rfl h T (by omega) hr
  rw [if_neg k2]
  by_cases k4 : kd = 4
  · subst k4
    rw [if_pos rfl]
    cases e with
    | false =>
      obtain ⟨t1, t2⟩ := q5 rfl rfl
      exact next_flush0 w fb v f B size cn cd bv cb on h t1 t2 (by omega) hr
    | true =>
      cases hf : f.failed with
      | true => exact next_flush9a w fb v f B size cn cd bv cb on h hf (by omega) hr
      | false =>
        have t : f.room < f.all.length := by
          rcases q6 rfl rfl with t | t
          · rw [hf] at t; cases t
          · exact t
        exact next_flush9b w fb v f B size cn cd bv cb on h hf t (by omega) hr
  rw [if_neg k4]
  by_cases k5 : kd = 5
  · subst k5
    obtain ⟨t1, t2, t3⟩ := q7 rfl
    have := next_rest5 w fb v f B size cn cd bv cb on (errN e) h t1 t2 t3 hs (by omega) hff
    exact this
  by_cases k6 : kd = 6
  · subst k6
    obtain ⟨t1, t2, t3⟩ := q8 rfl
    exact next_rest6 w fb v f B size cn cd bv cb on (errN e) h t1 t2 t3 hs (by omega) hff
  · exact next_other w fb v f B size cn cd bv cb kd on (errN e) h (by omega)

theorem next_at (w : World) (fb : Nat) (v : Value) (f : Flow) (B : Nat) (size : Nat) (kd cn : Int) (cd : UInt8) (cb : List UInt8) (on oe : Int) (bv : Value) (h : FlowAt w fb v f B) (hbv : BytesAt w bv cb) (N : NextOk f size ⟨kd, cn, cd, cb⟩ ⟨on, oe⟩) (hs : size ≤ 32767) (hl : f.all.length + (cb.length + 4) ≤ 140737488355328) (hr : f.room ≤ 9223372036854775807) (hff : f.flushed ≤ 140737488355328) :
    Calls Tryd.prog 17 #[.pointer (some ⟨fb, 0, none⟩), .int .i64 size, .agg #[.int .i64 kd, .int .i64 cn, .int .u8 (cd.toNat : Int), bv], .agg #[.slice none 0 0, .int .i64 on, .int .i32 0, .bool false, .int .i64 oe]] w (FlowDone w fb v (f.next ⟨kd, cn, cd, cb⟩ ⟨on, oe⟩) B) :=
  next_ok w fb v f B size ⟨kd, cn, cd, cb⟩ ⟨on, oe⟩ bv h hbv N hs hl hr hff
end Go.Proofs.YtegbfhfmbjdjiaaDoor
