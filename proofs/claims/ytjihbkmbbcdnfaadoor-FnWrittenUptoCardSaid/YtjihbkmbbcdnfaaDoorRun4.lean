/-
  Rows of calls and of results, and the walk of the thin package's WriterRun.
-/
import Derived.Test.YtjihbkmbbcdnfaaDoorRun3
import Derived.Test.YtjihbkmbbcdnfaaDoorPureW4
namespace Go.Proofs.YtjihbkmbbcdnfaaDoor
open Go.RowKit

theorem infoOut : (Tryd.prog.info? 50).map (fun i => (i.zero, i.size, i.bytes)) = some (some (.agg (outA 0 0)), 5, 48) := by kernel_rfl
theorem infoCall : (Tryd.prog.info? 44).map (fun i => (i.zero, i.size, i.bytes)) = some (some (.agg #[.int .i64 0, .int .i64 0, .int .u8 0, .slice none 0 0]), 4, 48) := by kernel_rfl

theorem addr_add (b o n : Nat) : (⟨b, o, none⟩ : Addr).add n = ⟨b, o + n, none⟩ := by unfold Addr.add; split <;> simp_all

/-- The cells of results. -/
def outsV : List OutW → List Value
  | [] => []
  | o :: r => (outA o.n o.err).toList ++ outsV r
theorem outsV_length : ∀ os : List OutW, (outsV os).length = os.length * 5
  | [] => rfl
  | o :: r => by simp [outsV, outsV_length r, outA]; omega
theorem outsV_snoc : ∀ (os : List OutW) (o : OutW), outsV (os ++ [o]) = outsV os ++ (outA o.n o.err).toList
  | [], o => by simp [outsV]
  | x :: r, o => by simp [outsV, outsV_snoc r o]

/-- The cells of calls, their bytes in the slices bvs. -/
def callsV : List CallR → List Value → List Value
  | c :: cs, bv :: bvs => (callA c bv).toList ++ callsV cs bvs
  | _, _ => []
theorem callsV_length : ∀ (cs : List CallR) (bvs : List Value), bvs.length = cs.length → (callsV cs bvs).length = cs.length * 4
  | [], [], _ => rfl
  | c :: cs, bv :: bvs, h => by
    have h' : bvs.length = cs.length := by simpa using h
    simp [callsV, callsV_length cs bvs h', callA]; omega
  | [], _ :: _, h => by simp at h
  | _ :: _, [], h => by simp at h

theorem callsV_get : ∀ (cs : List CallR) (bvs : List Value) (k : Nat) (c : CallR) (bv : Value), cs[k]? = some c → bvs[k]? = some bv → ∀ j, j < 4 → (callsV cs bvs)[k * 4 + j]? = (callA c bv)[j]?
  | c' :: cs, bv' :: bvs, 0, c, bv, hc, hb, j, hj => by
    simp at hc hb
    subst hc hb
    simp only [callsV, Nat.zero_mul, Nat.zero_add]
    rw [List.getElem?_append_left (by simpa [callA] using hj)]
    simp
  | c' :: cs, bv' :: bvs, k + 1, c, bv, hc, hb, j, hj => by
    simp at hc hb
    have := callsV_get cs bvs k c bv hc hb j hj
    simp only [callsV]
    rw [List.getElem?_append_right (by simp [callA]; omega)]
    rw [← this]
    congr 1
    simp [callA]; omega
  | [], _, k, c, bv, hc, _, _, _ => by simp at hc
  | _ :: _, [], k, c, bv, _, hb, _, _ => by simp at hb

/-- A slice of calls. -/
def CallsAt (w : World) (v : Value) (cs : List CallR) : Prop :=
  ∃ (a : Option Addr) (c : Nat) (bvs : List Value), v = .slice a cs.length c ∧ cs.length ≤ c ∧ c ≤ maxLen ∧ (a = none → c = 0) ∧ bvs.length = cs.length ∧ (∀ ad, a = some ad → CellsAt w ad (callsV cs bvs)) ∧
    ∀ (j : Nat) (u : Value) (x : CallR), bvs[j]? = some u → cs[j]? = some x → BytesAt w u x.bytes

theorem CallsAt.new {w w' : World} {v : Value} {cs : List CallR} (h : CallsAt w v cs) (k : New w w') : CallsAt w' v cs := by
  obtain ⟨a, c, bvs, h1, h2, h3, h4, h5, h6, h7⟩ := h
  exact ⟨a, c, bvs, h1, h2, h3, h4, h5, fun ad e => (h6 ad e).keep k (fun _ f => f), fun j u x hu hx => (h7 j u x hu hx).new k⟩

/-- A call of a row, its cells. -/
theorem CallsAt.at {w : World} {a : Option Addr} {n c : Nat} {cs : List CallR} (h : CallsAt w (.slice a n c) cs) {k : Nat} {x : CallR} (hx : cs[k]? = some x) :
    ∃ b o bv, a = some ⟨b, o, none⟩ ∧ BytesAt w bv x.bytes ∧ (∀ j u, (callA x bv)[j]? = some u → w.cell? ⟨b, o + (k * 4 + j), none⟩ = some u) := by
  obtain ⟨a', c', bvs, e, h2, h3, h4, h5, h6, h7⟩ := h
  simp only [Value.slice.injEq] at e
  obtain ⟨rfl, rfl, rfl⟩ := e
  have hk : k < cs.length := (List.getElem?_eq_some_iff.1 hx).1
  obtain ⟨bv, hbv⟩ : ∃ bv, bvs[k]? = some bv := ⟨_, List.getElem?_eq_getElem (by omega)⟩
  cases ha : a with
  | none => have := h4 ha; omega
  | some ad =>
    have hc := h6 ad ha
    have hget : ∀ j u, (callA x bv)[j]? = some u → (callsV cs bvs)[k * 4 + j]? = some u := fun j u hu => by
      have hj : j < 4 := by have := (Array.getElem?_eq_some_iff.1 hu).1; simpa [callA] using this
      rw [callsV_get cs bvs k x bv hx hbv j hj]; exact hu
    have hlen := callsV_length cs bvs h5
    have h0 := hc 0 ((callsV cs bvs)[0]'(by omega)) (List.getElem?_eq_getElem (by omega))
    obtain ⟨b, o, sp⟩ := ad
    have hspot : sp = none := by simpa [Addr.add] using World.cell?_spot h0
    subst hspot
    refine ⟨b, o, bv, rfl, h7 k bv x hbv hx, fun j u hu => ?_⟩
    have := hc (k * 4 + j) u (hget j u hu)
    rwa [addr_add] at this

/-- What holds at the head of each round of WriterRun. -/
def RInv (ea : Addr) (w : World) (b bb b1 b2 : Nat) (a0 : WW) (cs : List CallR) (g : Nat) (v i : Value) (wr : World) : Prop :=
  ∃ (k : Nat) (outs : List OutW) (a : WW) (cb ob : Nat) (cg og : Value) (ao : Option Addr) (co : Nat), k ≤ cs.length ∧ i = .int .i64 k ∧ v = .slice ao k co ∧ wr.ownsRow w.heap.size 50 5 v k (outsV outs) ∧ a0.Runs (cs.take k) outs a ∧
    TwoAt ea wr b bb cb ob cg og a.wr a.other w.heap.size ∧ (cb = if a.snd then b2 else b1) ∧ (ob = if a.snd then b1 else b2) ∧
    (∀ i, v.ownBlock = some i → i ≠ b ∧ i ≠ bb ∧ i ≠ b1 ∧ i ≠ b2 ∧ cg.ownBlock ≠ some i ∧ og.ownBlock ≠ some i) ∧ New w wr ∧ g = cs.length - k

/-- What a run of calls leaves. -/
def RunDone (w : World) (a0 : WW) (cs : List CallR) (e : Ending) (w' : World) : Prop :=
  ∃ (outs : List OutW) (a : WW) (vo v1 v2 : Value), a0.Runs cs outs a ∧ e = .returned (.tuple #[vo, v1, v2]) ∧ w'.ownsRow w.heap.size 50 5 vo outs.length (outsV outs) ∧ BytesAt w' v1 a.got1 ∧ BytesAt w' v2 a.got2 ∧ New w w'

/-- The same, and the bytes of both sinks lie in rows of their own, made by the run. -/
def RunDone2 (w : World) (a0 : WW) (cs : List CallR) (e : Ending) (w' : World) : Prop :=
  ∃ (outs : List OutW) (a : WW) (vo v1 v2 : Value), a0.Runs cs outs a ∧ e = .returned (.tuple #[vo, v1, v2]) ∧ w'.ownsRow w.heap.size 50 5 vo outs.length (outsV outs) ∧ w'.ownsRow w.heap.size 5 1 v1 a.got1.length (bytesV a.got1) ∧ w'.ownsRow w.heap.size 5 1 v2 a.got2.length (bytesV a.got2) ∧ New w w'
theorem RunDone2.done {w : World} {a0 : WW} {cs : List CallR} {e : Ending} {w' : World} (h : RunDone2 w a0 cs e w') : RunDone w a0 cs e w' := by
  obtain ⟨outs, a, vo, v1, v2, h1, h2, h3, h4, h5, h6⟩ := h
  exact ⟨outs, a, vo, v1, v2, h1, h2, h3, ownsRow_rowAt h4, ownsRow_rowAt h5, h6⟩

/-- The two sinks behind a run. -/
theorem TwoAt.sinks {ea : Addr} {w : World} {b bb cb ob b1 b2 : Nat} {cg og : Value} {a : WW} {B : Nat} (h : TwoAt ea w b bb cb ob cg og a.wr a.other B) (hcb : cb = if a.snd then b2 else b1) (hob : ob = if a.snd then b1 else b2) :
    ∃ (x1 x2 : Option Addr) (d1 d2 : Nat), w.cell? ⟨b1, 1, none⟩ = some (.slice x1 a.got1.length d1) ∧ w.cell? ⟨b2, 1, none⟩ = some (.slice x2 a.got2.length d2) ∧ BytesAt w (.slice x1 a.got1.length d1) a.got1 ∧ BytesAt w (.slice x2 a.got2.length d2) a.got2 := by
  obtain ⟨xc, dc, rfl⟩ := ownsRow_slice h.wr.sk.own
  obtain ⟨xo, d0, rfl⟩ := ownsRow_slice h.sk.own
  have hc := cell_of (o := 1) h.wr.sk.cells rfl
  have ho := cell_of (o := 1) h.sk.cells rfl
  have rc : BytesAt w _ _ := ownsRow_rowAt h.wr.sk.own
  have ro : BytesAt w _ _ := ownsRow_rowAt h.sk.own
  unfold WW.got1 WW.got2
  cases hs : a.snd with
  | false =>
    rw [hs] at hcb hob
    simp at hcb hob
    subst hcb hob
    exact ⟨xc, xo, dc, d0, hc, ho, rc, ro⟩
  | true =>
    rw [hs] at hcb hob
    simp at hcb hob
    subst hcb hob
    exact ⟨xo, xc, d0, dc, ho, hc, ro, rc⟩

/-- One round more. -/
theorem rinv_next {ea : Addr} {w wr w4 w5 w6 w7 : World} {b bb b1 b2 cb ob k co c7 : Nat} {cg og : Value} {a0 a : WW} {cs : List CallR} {outs : List OutW} {ao a7 : Option Addr} {x : CallR} {e : Ending} {o : OutW} {a' : WW} {cb' ob' : Nat} {cg' og' : Value}
    (hlt : k < cs.length) (htk : cs.take (k + 1) = cs.take k ++ [x]) (hown : wr.ownsRow w.heap.size 50 5 (.slice ao k co) k (outsV outs)) (hruns : a0.Runs (cs.take k) outs a) (hlts : b < wr.heap.size ∧ bb < wr.heap.size ∧ cb < wr.heap.size ∧ ob < wr.heap.size)
    (hbs : ∀ i, wrSet b bb cb cg i → w.heap.size ≤ i)
    (hcb : cb = if a.snd then b2 else b1) (hob : ob = if a.snd then b1 else b2) (hfree : ∀ i, (Value.slice ao k co).ownBlock = some i → i ≠ b ∧ i ≠ bb ∧ i ≠ b1 ∧ i ≠ b2 ∧ cg.ownBlock ≠ some i ∧ og.ownBlock ≠ some i) (hnw : New w wr)
    (hn4 : New wr w4) (hdo : a.Does x o a') (hT : TwoAt ea w5 b bb cb' ob' cg' og' a'.wr a'.other w.heap.size) (hsw : cb' = cb ∧ ob' = ob ∧ a'.snd = a.snd ∨ cb' = ob ∧ ob' = cb ∧ a.snd = false ∧ a'.snd = true)
    (hgs : ∀ i, cg'.ownBlock = some i ∨ og'.ownBlock = some i → cg.ownBlock = some i ∨ og.ownBlock = some i ∨ w4.heap.size ≤ i) (hk5 : Keep (wrSet b bb cb cg) w4 w5) (hn6 : New w5 w6) (hg7 : w6.grownBy w7 (Value.slice ao k co).ownBlock)
    (ho7 : w7.ownsRow w.heap.size 50 5 (.slice a7 (k + 1) c7) (k + 1) (outsV outs ++ (outA o.n o.err).toList)) (hb7 : ∀ i, (Value.slice a7 (k + 1) c7).ownBlock = some i → (Value.slice ao k co).ownBlock = some i ∨ i = w6.heap.size) :
    RInv ea w b bb b1 b2 a0 cs (cs.length - (k + 1)) (.slice a7 (k + 1) c7) (.int .i64 ((k : Int) + 1)) w7 := by
  have hs4 := hn4.size
  have hs5 := hk5.size
  have hs6 := hn6.size
  have hsw0 := hnw.size
  have holt : ∀ i, (Value.slice ao k co).ownBlock = some i → w.heap.size ≤ i ∧ i < wr.heap.size := fun i hi => hown.lt i hi
  have hT6 := hT.new hn6
  obtain ⟨t1, t2, t3, t4⟩ := hT6.lts
  have hkg : Keep (fun i => (Value.slice ao k co).ownBlock = some i) w6 w7 := (Keep.refl _ w6).grown hg7 (fun i hi => .inl hi)
  have hfree' : ∀ i, (Value.slice ao k co).ownBlock = some i → i ≠ b ∧ i ≠ bb ∧ i ≠ b1 ∧ i ≠ b2 ∧ cg'.ownBlock ≠ some i ∧ og'.ownBlock ≠ some i := fun i hi => by
    obtain ⟨f1, f2, f3, f4, f5, f6⟩ := hfree i hi
    have hl := (holt i hi).2
    refine ⟨f1, f2, f3, f4, fun e => ?_, fun e => ?_⟩
    · rcases hgs i (.inl e) with h | h | h
      · exact f5 h
      · exact f6 h
      · omega
    · rcases hgs i (.inr e) with h | h | h
      · exact f5 h
      · exact f6 h
      · omega
  have hcbo : (cb' = if a'.snd then b2 else b1) ∧ (ob' = if a'.snd then b1 else b2) := by
    rcases hsw with ⟨q1, q2, q3⟩ | ⟨q1, q2, q3, q4⟩
    · rw [q1, q2, q3]; exact ⟨hcb, hob⟩
    · rw [q3] at hcb hob; rw [q4, q1, q2]; exact ⟨hob, hcb⟩
  have hcs2 : cb' = b1 ∨ cb' = b2 := by rw [hcbo.1]; cases a'.snd <;> simp
  have hos2 : ob' = b1 ∨ ob' = b2 := by rw [hcbo.2]; cases a'.snd <;> simp
  have hT7 : TwoAt ea w7 b bb cb' ob' cg' og' a'.wr a'.other w.heap.size := by
    refine hT6.keep hkg (fun i e hi => ?_) (fun hi => ?_) (fun i e hi => ?_)
    · obtain ⟨f1, f2, f3, f4, f5, f6⟩ := hfree' i hi
      rcases e with e | e | e | e
      · exact f1 e
      · exact f2 e
      · rcases hcs2 with h | h
        · exact f3 (e.trans h)
        · exact f4 (e.trans h)
      · exact f5 e
    · obtain ⟨f1, f2, f3, f4, f5, f6⟩ := hfree' ob' hi
      rcases hos2 with h | h
      · exact f3 h
      · exact f4 h
    · exact (hfree' i hi).2.2.2.2.2 e
  have hb12 : b1 < w6.heap.size ∧ b2 < w6.heap.size := by
    have h1 := hlts.2.2.1
    have h2 := hlts.2.2.2
    rw [hcb] at h1
    rw [hob] at h2
    cases hs : a.snd <;> simp [hs] at h1 h2 <;> omega
  refine ⟨k + 1, outs ++ [o], a', cb', ob', cg', og', a7, c7, hlt, by rw [show (((k + 1 : Nat)) : Int) = (k : Int) + 1 by omega], rfl, by rw [outsV_snoc]; exact ho7, by rw [htk]; exact hruns.snoc hdo, hT7, hcbo.1, hcbo.2, fun i hi => ?_, ?_, rfl⟩
  · rcases hb7 i hi with h | h
    · exact hfree' i h
    · subst h
      refine ⟨by omega, by omega, by omega, by omega, fun e => ?_, fun e => ?_⟩
      · have := (hT6.wr.sk.own.lt _ e).2; omega
      · have := (hT6.sk.own.lt _ e).2; omega
  · have k1 : New w w4 := hnw.then hn4
    have k2 : New w w5 := k1.trans hk5 (fun i hi e => by have := hbs i e; omega)
    exact (k2.then hn6).trans hkg (fun i hi e => by have := (holt i e).1; omega)

set_option maxRecDepth 100000 in
set_option maxHeartbeats 2000000 in
theorem writerRun_any2 (w : World) (B0 : Nat) (ad : Nat → Addr) (hE : Errs w B0 ad) (hB0 : B0 ≤ w.heap.size) (n r1 r2 : Int) (v : Value) (cs : List CallR) (hcs : CallsAt w v cs) (h1 : -32768 ≤ n) (h2 : n ≤ 32767)
    (a1 : -9223372036854775807 ≤ r1 + 1) (a2 : r1 ≤ 9223372036854775807) (b1 : -9223372036854775807 ≤ r2 + 1) (b2 : r2 ≤ 9223372036854775807) (hM : callsW cs ≤ 1099511627776) (hL : cs.length ≤ 1099511627776) :
    Calls Tryd.prog 26 #[.int .i16 n, .agg #[.int .i64 r1], .agg #[.int .i64 r2], v] w (RunDone2 w (WW.start r1 r2 (wsize n)) cs) := by
  obtain ⟨av, cv, bvs0, rfl, q1, q2, q3, q4, q5, q6⟩ := id hcs
  have HC := Lib.hid hcs
  have HE := Lib.hid hE
  clear hcs hE q2 q3 q5 q6
  obtain ⟨i0, hi, hz0, hz1, hz2⟩ := info_parts infoOut
  have hwb := wsize_bounds n h2
  have hk4 : New w ((((w.alloc (.cells #[.int .i64 r1] 30)).alloc (.cells #[.int .i64 r2] 30)).alloc (.cells #[.int .i64 r1, .slice none 0 0] 64)).alloc (.cells #[.int .i64 r2, .slice none 0 0] 64)) := ((((Keep.refl _ _).alloc _).alloc _).alloc _).alloc _
  have hs1 : SnkAt ((((w.alloc (.cells #[.int .i64 r1] 30)).alloc (.cells #[.int .i64 r2] 30)).alloc (.cells #[.int .i64 r1, .slice none 0 0] 64)).alloc (.cells #[.int .i64 r2, .slice none 0 0] 64)) (w.heap.size + 2) (.slice none 0 0) ⟨r1, []⟩ w.heap.size := by
    refine ⟨?_, World.ownsRow_nil _ _ _ _, (fun e => by cases e), by omega⟩
    rw [Below.heap_alloc _ _ _ (by simp)]
    have := heap_alloc_new ((w.alloc (.cells #[.int .i64 r1] 30)).alloc (.cells #[.int .i64 r2] 30)) (.cells #[.int .i64 r1, .slice none 0 0] 64)
    simpa using this
  have hs2 : SnkAt ((((w.alloc (.cells #[.int .i64 r1] 30)).alloc (.cells #[.int .i64 r2] 30)).alloc (.cells #[.int .i64 r1, .slice none 0 0] 64)).alloc (.cells #[.int .i64 r2, .slice none 0 0] 64)) (w.heap.size + 3) (.slice none 0 0) ⟨r2, []⟩ w.heap.size := by
    refine ⟨?_, World.ownsRow_nil _ _ _ _, (fun e => by cases e), by omega⟩
    have := heap_alloc_new (((w.alloc (.cells #[.int .i64 r1] 30)).alloc (.cells #[.int .i64 r2] 30)).alloc (.cells #[.int .i64 r1, .slice none 0 0] 64)) (.cells #[.int .i64 r2, .slice none 0 0] 64)
    simpa using this
  have HK4 := Lib.hid hk4
  have HS1 := Lib.hid hs1
  have HS2 := Lib.hid hs2
  clear hk4 hs1 hs2
  go_enter Tryd.func26, Tryd.ntmps26
  go_wp2_with fail
  refine (newWriter_any (ad 7) _ _ _ _ n _ HS1.out h1 h2).mono ?_
  rintro e w3 ⟨b, bb, rfl, hb3, hbb3, hat3, hn3⟩
  have hk3 := HK4.out.then hn3
  simp at hb3 hbb3
  have H0 : Hid (RInv (ad 7) w b bb (w.heap.size + 2) (w.heap.size + 3) (WW.start r1 r2 (wsize n)) cs cs.length (.slice none 0 0) (.int .i64 0) w3) := by
    refine ⟨0, [], WW.start r1 r2 (wsize n), w.heap.size + 2, w.heap.size + 3, .slice none 0 0, .slice none 0 0, none, 0, Nat.zero_le _, rfl, rfl, ?_, ⟨rfl, rfl⟩, ⟨hat3, HS2.out.keep hn3 (fun f => f) (fun _ _ f => f), by omega, by omega, by omega, (fun e => by cases e), (fun e => by cases e), (fun e => by cases e), (fun e => by cases e), (fun i e => by cases e)⟩, rfl, rfl, (fun i e => by cases e), hk3, rfl⟩
    simpa [outsV] using World.ownsRow_nil w3 w.heap.size 50 5
  clear hat3 hn3 hk3 HS1 HS2 HK4
  go_wp2_with fail
  go_loopg [14, 32, 16] cs.length (fun g v i c wr => RInv (ad 7) w b bb (w.heap.size + 2) (w.heap.size + 3) (WW.start r1 r2 (wsize n)) cs g v i wr)
  case atStart => exact H0.out
  case round =>
    obtain ⟨k, outs, a, cb, ob, cg, og, ao, co, hk, rfl, rfl, hown, hruns, htwo, hcb, hob, hfree, hnw, rfl⟩ := hrel
    have hout := hruns.length
    have hkl : (cs.take k).length = k := by simp; omega
    rw [hkl] at hout
    have hok := (hruns.keeps (WW.start_ok r1 r2 (wsize n) hwb a1 a2 b1 b2) (by have := callsW_take cs k; omega)).1
    by_cases hlt : k < cs.length
    · obtain ⟨x, hx⟩ : ∃ x, cs[k]? = some x := ⟨_, List.getElem?_eq_getElem hlt⟩
      obtain ⟨bc, oc, bv, rfl, hbv, hcell⟩ := (HC.out.new hnw).at hx
      obtain ⟨ab, cbv, rfl, _⟩ := id hbv
      rw [bytesV_length] at hbv hcell
      have e0 := hcell 0 (.int .i64 x.kind) rfl
      have e1 := hcell 1 (.int .i64 x.n) rfl
      have e2 := hcell 2 (.int .u8 (x.delim.toNat : Int)) rfl
      have e3 := hcell 3 (.slice ab x.bytes.length cbv) rfl
      rw [show oc + (k * 4 + 0) = oc + k * 4 by omega] at e0
      rw [show oc + (k * 4 + 1) = oc + k * 4 + 1 by omega] at e1
      rw [show oc + (k * 4 + 2) = oc + k * 4 + 2 by omega] at e2
      rw [show oc + (k * 4 + 3) = oc + k * 4 + 3 by omega] at e3
      obtain ⟨htk, hw⟩ := callsW_take_succ hx
      have htot := callsW_take cs (k + 1)
      have hl4 : a.wr.snk.got.length + a.wr.buf.length + x.bytes.length + 4 ≤ 140737488355328 := by have := hok.l1; omega
      have hn4 : New wr (wr.alloc (.cells (callA x (.slice ab x.bytes.length cbv)) 44)) := (Keep.refl _ _).alloc _
      have hb2 : w.heap.size + 1 + 1 + 1 = if a.snd then cb else ob := by rw [hcb, hob]; cases a.snd <;> rfl
      have hwo := write_one (wr.alloc (.cells (callA x (.slice ab x.bytes.length cbv)) 44)) B0 ad ((HE.out.keep hnw (fun _ _ f => f)).keep hn4 (fun _ _ f => f)) b bb cb ob _ cg og a.wr a.other a.snd w.heap.size hB0 (htwo.new hn4) x _ (hbv.new hn4) hok.fits hl4 hb2
      have Hlts := Lib.hid htwo.lts
      have Hbs : Hid (∀ i, wrSet b bb cb cg i → w.heap.size ≤ i) := fun i hi => (htwo.wr.blocks i hi).1
      have HN4 := Lib.hid hn4
      have HWO := Lib.hid hwo
      have Hruns := Lib.hid hruns
      have Hown := Lib.hid hown
      have Hnw := Lib.hid hnw
      have Hfree := Lib.hid hfree
      have Hcb := Lib.hid hcb
      have Hob := Lib.hid hob
      have Htk := Lib.hid htk
      have hlt' : (k : Int) < cs.length := by omega
      unfold callA at HWO HN4
      clear hcell hbv htwo hruns hown hnw hfree hcb hob htk hout hkl hok hw htot hx hn4 hb2 hwo
      go_wp2_with fail
      refine HWO.out.mono ?_
      rintro e w5 ⟨o, a', cb', ob', cg', og', hdo, rfl, hT5, hsw, hgs5, hk5⟩
      have hs5 := hk5.size
      have Ho5 : Hid (w5.ownsRow w.heap.size 50 5 (.slice ao k co) k (outsV outs)) := by
        refine ownsRow_keep (ownsRow_keep Hown.out HN4.out (fun _ _ f => f)) hk5 (fun i hi e => ?_)
        obtain ⟨f1, f2, f3, f4, f5, f6⟩ := Hfree.out i hi
        rcases e with e | e | e | e
        · exact f1 e
        · exact f2 e
        · have := Hcb.out
          cases hs : a.snd <;> simp [hs] at this <;> omega
        · exact f5 e
      have hbase : w.heap.size ≤ w5.heap.size := by have := Hnw.out.size; have := HN4.out.size; omega
      have Hdo := Lib.hid hdo
      have HT5 := Lib.hid hT5
      have Hsw := Lib.hid hsw
      have Hgs5 := Lib.hid hgs5
      have Hk5 := Lib.hid hk5
      have hk40 : k ≤ 1099511627776 := by omega
      clear hdo hT5 hsw hgs5 hk5 hs5 HWO
      unfold outA
      go_wp2_with (at_builtin; refine wpList_append_row rfl _ _ 46 rfl w.heap.size 50 i0 (.agg (outA 0 0)) 5 48 Tryd.underlying46 hi hz0 hz1 hz2 ?x2 ?x3 _ k (outsV outs) rfl ?x5 (some ⟨w5.heap.size, 0, none⟩) 1 1 (outA o.n o.err).toList ?x6 ?x7 ?x8 ?c0 ?c1 ?c2 ?c3 ?c4 ?_)
      case x2 => rfl
      case x3 => decide
      case x5 => exact Ho5.out.alloc _
      case x6 => rfl
      case x7 => intro e; cases e
      case x8 => rfl
      case c0 =>
        intro ad' e' j u hu
        cases e'
        have := cell_new w5 (outA o.n o.err) 50 j
        rw [addr_add, Nat.zero_add]
        unfold outA at this hu
        rw [this]
        simpa using hu
      case c1 =>
        intro u hu
        simp [outA] at hu
        rcases hu with rfl | rfl | rfl | rfl | rfl <;> rfl
      case c2 => unfold maxLen; omega
      case c3 => omega
      case c4 => simp; omega
      intro a7 c7 w7 ho7 hg7 hb7
      have hn6 : New w5 (w5.alloc (.cells #[.slice none 0 0, .int .i64 o.n, .int .i32 0, .bool false, .int .i64 o.err] 50)) := (Keep.refl _ _).alloc _
      have H7 : Hid (RInv (ad 7) w b bb (w.heap.size + 2) (w.heap.size + 3) (WW.start r1 r2 (wsize n)) cs (cs.length - (k + 1)) (.slice a7 (k + 1) c7) (.int .i64 ((k : Int) + 1)) w7) :=
        rinv_next (e := .returned .nilIface) hlt Htk.out Hown.out Hruns.out Hlts.out Hbs.out Hcb.out Hob.out Hfree.out Hnw.out HN4.out Hdo.out HT5.out Hsw.out Hgs5.out Hk5.out hn6 hg7 ho7 (fun i hi => by
          rcases hb7 i hi with h | h
          · exact .inl h
          · right; rw [h]; simp)
      clear ho7 hg7 hb7 hn6
      go_wp2
      go_roundg (cs.length - (k + 1))
      case measure => omega
      case rel => exact H7.out
    · obtain rfl : k = cs.length := by omega
      rw [List.take_length] at hruns
      have hgot : a.got1.length ≤ 140737488355328 ∧ a.got2.length ≤ 140737488355328 := by
        have l1 := hok.l1
        have l2 := hok.l2
        have l3 := callsW_take cs cs.length
        unfold WW.got1 WW.got2
        cases a.snd <;> simp <;> omega
      obtain ⟨x1, x2, d1, d2, c1, c2, y1, y2⟩ := htwo.sinks hcb hob
      obtain ⟨g1, hg1⟩ : ∃ g1, g1 = a.got1 := ⟨_, rfl⟩
      obtain ⟨g2, hg2⟩ : ∃ g2, g2 = a.got2 := ⟨_, rfl⟩
      rw [← hg1] at c1 y1 hgot
      rw [← hg2] at c2 y2 hgot
      have hgl1 := hgot.1
      have hgl2 := hgot.2
      have Hg1 := Lib.hid hg1
      have Hg2 := Lib.hid hg2
      have HB1 : Hid (BytesAt wr.drew (.slice x1 g1.length d1) g1) := y1
      have HB2 : Hid (BytesAt wr.drew (.slice x2 g2.length d2) g2) := y2
      have HS := Lib.hid (fun (w' : World) (h : New wr.drew w') => (show w'.cell? ⟨w.heap.size + 1 + 1, 1, none⟩ = some (.slice x1 g1.length d1) ∧ w'.cell? ⟨w.heap.size + 1 + 1 + 1, 1, none⟩ = some (.slice x2 g2.length d2) from ⟨New.cellAt h c1, New.cellAt h c2⟩))
      have c1' : wr.cell? ⟨w.heap.size + 1 + 1, 1, none⟩ = some (.slice x1 g1.length d1) := c1
      have c2' : wr.cell? ⟨w.heap.size + 1 + 1 + 1, 1, none⟩ = some (.slice x2 g2.length d2) := c2
      have Hruns := Lib.hid hruns
      have Hown := Lib.hid hown
      have Hnw := Lib.hid hnw
      have Hout := Lib.hid hout
      have hnl : ¬ ((cs.length : Int) < cs.length) := by omega
      clear hruns hown hnw htwo hcb hob hfree hok hout hkl y1 y2 hg1 hg2 hgot c1 c2 hlt hk
      go_wp2_with fail
      go_region_held3 (fun w' => w'.cell? ⟨w.heap.size + 1 + 1, 1, none⟩ = some (.slice x1 g1.length d1) ∧ w'.cell? ⟨w.heap.size + 1 + 1 + 1, 1, none⟩ = some (.slice x2 g2.length d2))
        (first | exact ⟨c1', c2'⟩ | exact HS.out _ hnA | exact HS.out _ hnB | exact HS.out _ (hnA.then hnB) | exact HS.out _ (hnB.then hnA))
        (first | (go_at_call 38; (with_reducible refine (copied_any (.slice x1 g1.length d1) g1 _ (HB1.out.new (by first | exact Keep.refl _ _ | exact hnB)) hgl1).mono ?_); rintro e wA ⟨aA, cA, rfl, hoA, hnA⟩)
               | (go_at_call 38; (with_reducible refine (copied_any (.slice x2 g2.length d2) g2 _ (HB2.out.new (by first | exact Keep.refl _ _ | exact hnA)) hgl2).mono ?_); rintro e wB ⟨aB, cB, rfl, hoB, hnB⟩))
      rename_i hh
      have hwrs : w.heap.size ≤ wr.drew.heap.size := Hnw.out.size
      have hwAs : w.heap.size ≤ wA.heap.size := by have := hnA.size; omega
      have HA : Hid (wB.ownsRow w.heap.size 5 1 (.slice aA g1.length cA) g1.length (bytesV g1)) := ownsRow_lower (ownsRow_keep hoA hnB (fun _ _ f => f)) hwrs
      have HB : Hid (wB.ownsRow w.heap.size 5 1 (.slice aB g2.length cB) g2.length (bytesV g2)) := ownsRow_lower hoB hwAs
      have HNe : Hid (New w wB) := (Hnw.out.drew.then hnA).then hnB
      have HO : Hid (wB.ownsRow w.heap.size 50 5 (.slice ao cs.length co) cs.length (outsV outs)) := ownsRow_keep (S := fun _ => False) (w := wr.drew) Hown.out (hnA.then hnB) (fun _ _ f => f)
      clear hh HS hoA hoB hnA hnB hwrs hwAs
      go_wp2
      go_ret3
      refine ⟨outs, a, _, _, _, Hruns.out, rfl, ?_, ?_, ?_, HNe.out⟩
      · rw [Hout.out]; exact HO.out
      · rw [← Hg1.out]; exact HA.out
      · rw [← Hg2.out]; exact HB.out

theorem writerRun_any (w : World) (B0 : Nat) (ad : Nat → Addr) (hE : Errs w B0 ad) (hB0 : B0 ≤ w.heap.size) (n r1 r2 : Int) (v : Value) (cs : List CallR) (hcs : CallsAt w v cs) (h1 : -32768 ≤ n) (h2 : n ≤ 32767)
    (a1 : -9223372036854775807 ≤ r1 + 1) (a2 : r1 ≤ 9223372036854775807) (b1 : -9223372036854775807 ≤ r2 + 1) (b2 : r2 ≤ 9223372036854775807) (hM : callsW cs ≤ 1099511627776) (hL : cs.length ≤ 1099511627776) :
    Calls Tryd.prog 26 #[.int .i16 n, .agg #[.int .i64 r1], .agg #[.int .i64 r2], v] w (RunDone w (WW.start r1 r2 (wsize n)) cs) :=
  (writerRun_any2 w B0 ad hE hB0 n r1 r2 v cs hcs h1 h2 a1 a2 b1 b2 hM hL).mono fun _ _ h => h.done
end Go.Proofs.YtjihbkmbbcdnfaaDoor
