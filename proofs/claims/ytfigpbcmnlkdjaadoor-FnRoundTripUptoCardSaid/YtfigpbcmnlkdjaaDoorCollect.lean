/-
  The walks of bytes.Clone and collectFragments, where the source's end is io.EOF.
-/
import Derived.Test.YtfigpbcmnlkdjaaDoorSliceA
import Derived.Test.YtfigpbcmnlkdjaaDoorPureF
namespace Go.Proofs.YtfigpbcmnlkdjaaDoor
open Go.RowKit

theorem infoBytesR : (Tryd.prog.info? 23).map (fun i => (i.zero, i.size, i.bytes)) = some (some (.slice none 0 0), 1, 24) := by kernel_rfl

theorem neq_same (w : World) (a : Addr) : (binOp .neq 54 (.iface 93 (.pointer (some a))) (.iface 93 (.pointer (some a)))).run Tryd.prog w = .ok (.bool false) w := by
  obtain ⟨i, hi, hc⟩ := Option.map_eq_some_iff.1 compES
  obtain ⟨j, hj, _⟩ := Option.map_eq_some_iff.1 sizeES
  simp only [binOp]
  simp [Op.equal, Op.maxDepth, run_equalIn_iface_ptr_same w 9998 a Tryd.underlying54 Tryd.underlying93 hi hc hj]

theorem neq_other {w : World} {B g g' : Nat} {a a' : Addr} (h : ErrAt w B g a) (h' : ErrAt w B g' a') (hne : a ≠ a') : (binOp .neq 54 (.iface 93 (.pointer (some a))) (.iface 93 (.pointer (some a')))).run Tryd.prog w = .ok (.bool true) w := by
  obtain ⟨i, hi, hc⟩ := Option.map_eq_some_iff.1 compES
  obtain ⟨j, hj, hs⟩ := Option.map_eq_some_iff.1 sizeES
  obtain ⟨cs, t, hb⟩ := h.blk
  obtain ⟨cs', t', hb'⟩ := h'.blk
  simp only [binOp]
  simp [Op.equal, Op.maxDepth, run_equalIn_iface_ptr_other w 9998 Tryd.underlying54 Tryd.underlying93 hi hc hj (by omega) hne hb hb']

set_option maxRecDepth 100000 in
/-- bytes.Clone of a slice that is not nil. -/
theorem clone_any (ad : Addr) (n c : Nat) (l : List UInt8) (w : World) (h : BytesAt w (.slice (some ad) n c) l) (hn : l.length = n) (hb : n ≤ 140737488355328) :
    Calls Tryd.prog 41 #[.slice (some ad) n c] w fun e w' => ∃ a' c', e = .returned (.slice a' n c') ∧ w'.ownsRow w.heap.size 5 1 (.slice a' n c') n (bytesV l) ∧ New w w' := by
  obtain ⟨i0, hi, hz0, hz1, hz2⟩ := info_parts infoByte
  have hna : New w (w.alloc (.cells #[] 5)) := (Keep.refl _ w).alloc _
  have HNA := Lib.hid hna
  have Hp := Lib.hid (RowAt.parts (RowAt.new h hna))
  have Hl : Hid ((bytesV l).length = n * 1) := by show _ = _; rw [bytesV_length, hn, Nat.mul_one]
  have Hown : Hid ((w.alloc (.cells #[] 5)).ownsRow w.heap.size 5 1 (.slice (some ⟨w.heap.size, 0, none⟩) 0 0) 0 []) := World.ownsRow_made w #[] 0 (Nat.le_refl _) (by unfold maxLen; omega) rfl
  have hm : 0 + n ≤ maxLen := by unfold maxLen; omega
  have hq : ∀ w : World, (binOp .eql 23 (.slice (some ad) n c) (.slice none 0 0)).run Tryd.prog w = .ok (.bool false) w := by
    intro w
    have h : ∀ d : Nat, (Op.equalIn (d + 1) 23 (.slice (some ad) n c) (.slice none 0 0)).run Tryd.prog w = .ok false w := fun d => by
      simp [Op.equalIn, run_underlying Tryd.underlying23]
    simp only [binOp]
    simp [Op.equal, Op.maxDepth, h 9999]
  clear h hn hna
  go_enter Tryd.func41, Tryd.ntmps41
  go_wp2_with (at_builtin; refine wpList_append_row rfl _ _ 23 rfl w.heap.size 5 i0 (.int .u8 0) 1 1 Tryd.underlying23 hi hz0 hz1 hz2 rfl (by decide) _ 0 [] rfl Hown.out (some ad) n c (bytesV l) rfl (fun e => by cases e) Hl.out Hp.out.2.2.2 (bytesV_one _) hm (by omega) (by simp) ?_)
  intro a3 c3 w3 ho3 hg3 hb3
  have Hn3 : Hid (New w w3) := HNA.out.trans ((Keep.refl (fun i => i = w.heap.size) _).grown hg3 (fun k hk => .inl (by simp [Value.ownBlock] at hk; exact hk.symm))) (fun i hi e => by omega)
  have Ho3 := Lib.hid ho3
  clear ho3 hg3 hb3
  go_wp2
  go_ret
  exact ⟨a3, c3, rfl, Ho3.out, Hn3.out⟩

theorem results_tmp4 {fn : Func} {t u v x : Tmp} (h : fn.results = #[.tmp t, .tmp u, .tmp v, .tmp x]) (tmps : Array Value) (P : Program) (w : World) :
    (results fn tmps).run P w = .ok (.tuple #[tmps.getD t undef, tmps.getD u undef, tmps.getD v undef, tmps.getD x undef]) w := by
  simp [results, h]

theorem RdAt.keep {S : Nat → Prop} {ev : Evs} {w w' : World} {b bb br : Nat} {st : Rd} (h : RdAt ev w b bb br st) (k : Keep S w w') (hb : ¬ S b ∧ ¬ S bb ∧ ¬ S br) (hS : ∀ i, i < w.heap.size → S i → ev.far i) : RdAt ev w' b bb br st := by
  obtain ⟨n1, n2, n3, hrd, ⟨cs, hbf, hcs, hct⟩, hsr⟩ := h
  exact ⟨n1, n2, n3, (k.block b (Array.getElem?_eq_some_iff.1 hrd).1 hb.1).trans hrd, ⟨cs, (k.block bb (Array.getElem?_eq_some_iff.1 hbf).1 hb.2.1).trans hbf, hcs, hct⟩, hsr.keep k hb.2.2 (fun i hi e => .inr (.inr (.inr (hS i hi e))))⟩

theorem RdAt.lt {ev : Evs} {w : World} {b bb br : Nat} {st : Rd} (h : RdAt ev w b bb br st) : b < w.heap.size ∧ bb < w.heap.size ∧ br < w.heap.size := by
  obtain ⟨n1, n2, n3, hrd, ⟨cs, hbf, hcs, hct⟩, hsr⟩ := h
  exact ⟨(Array.getElem?_eq_some_iff.1 hrd).1, (Array.getElem?_eq_some_iff.1 hbf).1, hsr.lt⟩

/-- Full buffers in a row of their own, each in memory of its own. -/
def FragsOwn (base : Nat) (w : World) (v : Value) (fs : List (List UInt8)) : Prop :=
  ∃ pvs : List Value, w.ownsRow base 23 1 v fs.length pvs ∧ pvs.length = fs.length ∧ ∀ (j : Nat) (u : Value) (p : List UInt8), pvs[j]? = some u → fs[j]? = some p → BytesAt w u p ∧ ∀ i, Value.inBlock u i → base ≤ i ∧ v.ownBlock ≠ some i

theorem FragsOwn.nil (base : Nat) (w : World) : FragsOwn base w (.slice none 0 0) [] :=
  ⟨[], World.ownsRow_nil _ _ _ _, rfl, fun j u p hu => by simp at hu⟩

theorem FragsOwn.keep {S : Nat → Prop} {base : Nat} {w w' : World} {v : Value} {fs : List (List UInt8)} (h : FragsOwn base w v fs) (k : Keep S w w') (hS : ∀ i, base ≤ i → ¬ S i) : FragsOwn base w' v fs := by
  obtain ⟨pvs, h1, h2, h3⟩ := h
  refine ⟨pvs, ownsRow_keep h1 k (fun i hi => hS i (h1.lt i hi).1), h2, fun j u p hu hp => ?_⟩
  obtain ⟨q1, q2⟩ := h3 j u p hu hp
  exact ⟨RowAt.keep q1 k (fun i hi => hS i (q2 i hi).1), q2⟩

theorem FragsOwn.snoc {base : Nat} {w w3 : World} {v u v' : Value} {fs : List (List UInt8)} {x : List UInt8} {o : Obj} {pvs : List Value} {k0 : Nat}
    (h1 : w.ownsRow base 23 1 v fs.length pvs) (h2 : pvs.length = fs.length) (h3 : ∀ (j : Nat) (u : Value) (p : List UInt8), pvs[j]? = some u → fs[j]? = some p → BytesAt w u p ∧ ∀ i, Value.inBlock u i → base ≤ i ∧ v.ownBlock ≠ some i)
    (hu : BytesAt w u x) (hub : ∀ i, Value.inBlock u i → base ≤ i ∧ k0 ≤ i) (hv : ∀ i, v.ownBlock = some i → i < k0)
    (ho : w3.ownsRow base 23 1 v' (fs.length + 1) (pvs ++ [u])) (hg : (w.alloc o).grownBy w3 v.ownBlock) (hb : ∀ k, v'.ownBlock = some k → v.ownBlock = some k ∨ k = (w.alloc o).heap.size) : FragsOwn base w3 v' (fs ++ [x]) := by
  have hk : Keep (fun i => v.ownBlock = some i) w w3 := ((Keep.refl (fun i => v.ownBlock = some i) w).alloc o).grown hg (fun k hk => .inl hk)
  have hx : ∀ (u : Value) (p : List UInt8), BytesAt w u p → (∀ i, Value.inBlock u i → base ≤ i ∧ v.ownBlock ≠ some i) → BytesAt w3 u p ∧ ∀ i, Value.inBlock u i → base ≤ i ∧ v'.ownBlock ≠ some i := by
    intro u p hp hi
    refine ⟨RowAt.keep hp hk (fun i h => (hi i h).2), fun i h => ⟨(hi i h).1, fun e => ?_⟩⟩
    rcases hb i e with e | e
    · exact (hi i h).2 e
    · have := RowAt.lt hp i h
      simp at e
      omega
  refine ⟨pvs ++ [u], by rw [List.length_append]; exact ho, by simp [h2], fun j u' p hu' hp => ?_⟩
  by_cases hj : j < pvs.length
  · rw [List.getElem?_append_left hj] at hu'
    rw [List.getElem?_append_left (by omega)] at hp
    obtain ⟨q1, q2⟩ := h3 j u' p hu' hp
    exact hx u' p q1 q2
  · rw [List.getElem?_append_right (by omega)] at hu'
    rw [List.getElem?_append_right (by omega)] at hp
    have hj0 : j - pvs.length = 0 := by
      rcases Nat.eq_zero_or_pos (j - pvs.length) with h | h
      · exact h
      · rw [List.getElem?_eq_none (by simp; omega)] at hu'; cases hu'
    rw [hj0] at hu'
    rw [show j - fs.length = 0 by omega] at hp
    simp only [List.getElem?_cons_zero, Option.some.injEq] at hu' hp
    subst hu' hp
    exact hx u x hu (fun i hi => ⟨(hub i hi).1, fun e => by have := hv i e; have := (hub i hi).2; omega⟩)

theorem erV_none (a0 a1 : Addr) : erV a0 a1 erNone = .nilIface := rfl
theorem erV_ends (a0 a1 : Addr) : erV a0 a1 erEnds = .iface 93 (.pointer (some a0)) := rfl
theorem erV_full (a0 a1 : Addr) : erV a0 a1 erFull = .iface 93 (.pointer (some a1)) := rfl

def CoInv (ev : Evs) (w : World) (b bb br : Nat) (d : UInt8) (st0 : Rd) (st' : Rd) (fs : List (List UInt8)) (x : List UInt8) (er : Er) (g : Nat) (v4 v6 v7 : Value) (wr : World) : Prop :=
  v7 = .nilIface ∧ ∃ (va : Option Addr) (vc : Nat) (st : Rd) (fs0 : List (List UInt8)), v4 = .slice va fs0.length vc ∧ st.Fit ∧ RdAt ev wr b bb br st ∧ st0.Same st ∧ st.todo.length < g * st.size ∧
    ((Rd.frags d g st).1, fs0 ++ (Rd.frags d g st).2.1, (Rd.frags d g st).2.2.1, (Rd.frags d g st).2.2.2) = (st', fs, x, er) ∧
    FragsOwn w.heap.size wr v4 fs0 ∧ v6 = .int .i64 ((joined fs0).length : Nat) ∧ (joined fs0).length + st.todo.length = st0.todo.length ∧ fs0.length * 16 ≤ (joined fs0).length ∧ Keep (fun i => i = b ∨ i = bb ∨ i = br) w wr

set_option maxRecDepth 100000 in
set_option maxHeartbeats 4000000 in
theorem collect_any (ev : Evs) (w : World) (B0 : Nat) (ad : Nat → Addr) (hE : Errs w B0 ad) (hev : ev true = .iface 93 (.pointer (some (ad 0)))) (b bb br : Nat) (hB : B0 ≤ b ∧ B0 ≤ bb ∧ B0 ≤ br) (st0 : Rd) (h : RdAt ev w b bb br st0) (fit : st0.Fit) (d : UInt8) (hfar : ∀ i, w.heap.size ≤ i → ev.far i)
    (he : st0.src.eof = true) (hdl : st0.src.data.length ≤ 4294967296) (hcl : st0.src.cuts.length ≤ 140737488355328) (k : Nat) (hk : st0.todo.length < k * st0.size) (st' : Rd) (fs : List (List UInt8)) (x : List UInt8) (er : Er) (hres : Rd.frags d k st0 = (st', fs, x, er)) (N : Nat) (hN : (joined fs ++ x).length = N) :
    Calls Tryd.prog 38 #[.pointer (some ⟨b, 0, none⟩), .int .u8 (d.toNat : Int)] w fun e w' => ∃ v a c, e = .returned (.tuple #[v, .slice a x.length c, .int .i64 N, erV (ad 0) (ad 1) er]) ∧
      FragsOwn w.heap.size w' v fs ∧ BytesAt w' (.slice a x.length c) x ∧ RdAt ev w' b bb br st' ∧ Keep (fun i => i = b ∨ i = bb ∨ i = br) w w' := by
  obtain ⟨i0, hi, hz0, hz1, hz2⟩ := info_parts infoBytesR
  have hbl := h.lt
  have Hfar := Lib.hid hfar
  clear hfar
  have hdlt := d.toNat_lt
  have htl : st0.todo.length ≤ st0.src.data.length := by unfold Rd.todo; simp
  have HI : Hid (CoInv ev w b bb br d st0 st' fs x er k (.slice none 0 0) (.int .i64 0) .nilIface w) :=
    ⟨rfl, none, 0, st0, [], rfl, fit, h, Rd.Same.refl _, hk, by rw [← hres]; simp, FragsOwn.nil _ _, rfl, by simp [joined], by simp, Keep.refl _ _⟩
  have HE := Lib.hid hE
  have Hev := Lib.hid hev
  have HN := Lib.hid hN
  clear h fit hE hev hres hk hN
  go_enter Tryd.func38, Tryd.ntmps38
  go_wp2_with fail
  go_loopg [4, 6, 7, 8, 9, 10] k (fun g v4 v6 v7 v8 v9 v10 wr => CoInv ev w b bb br d st0 st' fs x er g v4 v6 v7 wr)
  case atStart => exact HI.out
  case round =>
    obtain ⟨rfl, va, vc, st, fs0, rfl, fit, hat, hsame, hlt, hfr, hown, rfl, hsum, hmin, hkw⟩ := hrel
    obtain ⟨k, rfl⟩ : ∃ k, gk = k + 1 := by
      cases gk with
      | zero => omega
      | succ k => exact ⟨k, rfl⟩
    have hs := Rd.readSlice_on fit d
    obtain ⟨st1, x1, e1, hrs⟩ : ∃ st1 x1 e1, st.readSlice d = (st1, x1, e1) := ⟨_, _, _, rfl⟩
    have hE2 := HE.out.keep hkw (fun i hi e => by rcases e with e | e | e <;> omega)
    have heof : st.src.eof = true := by rw [hsame.eof]; exact he
    have hs16 := fit.ok.size
    have Hown := Lib.hid hown
    have Hkw := Lib.hid hkw
    have Hfit := Lib.hid fit
    have Hs := Lib.hid hs
    have Hrs := Lib.hid hrs
    have Hat := Lib.hid hat
    have Hfr := Lib.hid hfr
    have Hsame := Lib.hid hsame
    have HE2 := Lib.hid hE2
    have Hlt := Lib.hid hlt
    have Hmin := Lib.hid hmin
    have Hsum := Lib.hid hsum
    have Heof := Lib.hid heof
    have hjl : (joined fs0).length ≤ 4294967296 := by omega
    have hfl : fs0.length ≤ 4294967296 := by omega
    obtain ⟨J, hJ⟩ : ∃ J, (joined fs0).length = J := ⟨_, rfl⟩
    rw [hJ] at hjl ⊢
    have HJ := Lib.hid hJ
    obtain ⟨F, hF⟩ : ∃ F, fs0.length = F := ⟨_, rfl⟩
    rw [hF] at hfl Hown ⊢
    have HF := Lib.hid hF
    clear hown hkw fit hs hrs hat hfr hsame hE2 hlt hmin hsum heof hJ hF
    go_wp2_with fail
    refine (readSlice_any ev wr B0 ad HE2.out Hev.out b bb br hB st Hat.out Hfit.out.ok d Heof.out (by rw [Hsame.out.data]; omega) (by rw [Hsame.out.cuts]; exact hcl) st1 x1 e1 Hrs.out).mono ?_
    rintro e w1 ⟨xa, xc, rfl, hx1, hat1, hk1⟩
    have hs2 := Hs.out
    rw [Hrs.out] at hs2
    simp only at hs2
    have hE3 := HE2.out.keep hk1 (fun i hi e => by rcases e with e | e | e <;> omega)
    have Hown1 := Lib.hid (Hown.out.keep hk1 (fun i hi e => by rcases e with e | e | e <;> omega))
    have Hk1 := Lib.hid (Hkw.out.trans hk1 (fun _ _ e => e))
    have xg := hE3.e1.cell
    have hgl := hE3.e1.lt
    have Hat1 := Lib.hid hat1
    have Hx1 := Lib.hid hx1
    have Hs2 := Lib.hid hs2
    have hx1l : x1.length + st1.todo.length = st.todo.length := by
      have h7 := hs2.on.todo
      have h8 := congrArg List.length hs2.bytes
      rw [h7, List.length_drop]
      simp at h8
      omega
    have Hx1l := Lib.hid hx1l
    have hfr2 := Hfr.out
    have hxl32 : x1.length ≤ 4294967296 := by have := Hsum.out; omega
    have hjx : J + x1.length ≤ 4294967296 := by have := Hsum.out; have := HJ.out; omega
    by_cases hfull : e1 = erFull
    · subst hfull
      have q1 := neq_same w1 (ad 1)
      rw [Rd.frags_full (by rw [Hrs.out]), Hrs.out] at hfr2
      simp only at hfr2
      have hx16 : x1.length = st.size := by
        rcases hs2.kind with ⟨e2, _⟩ | ⟨_, _, e2⟩ | ⟨e2, _⟩
        · cases e2
        · exact e2
        · cases e2
      have hne : xa ≠ none := fun e => by
        obtain ⟨q2, q3, q4, _⟩ := RowAt.parts hx1
        have := (q4 e).2
        rw [bytesV_length] at q3
        omega
      obtain ⟨xad, rfl⟩ := Option.ne_none_iff_exists'.1 hne
      have HS16 := Lib.hid hx16
      have Hfr2 := Lib.hid hfr2
      have hst1 := hs2.on
      have hsz1 := hst1.same.size
      have Hst1 := Lib.hid hst1
      have Hsz1 := Lib.hid hsz1
      have hxc : 16 ≤ x1.length := by omega
      clear hs2 hE3 hat1 hk1 hx1 hx1l hne hfr2 hst1 hx16 hsz1
      rw [erV_full]
      go_wp2_with fail
      refine (clone_any xad x1.length xc x1 w1 Hx1.out rfl (by omega)).mono ?_
      rintro e w2 ⟨ua, uc, rfl, ho2, hn2⟩
      obtain ⟨pvs, o1, o2, o3⟩ := Hown1.out.keep hn2 (fun _ _ f => f)
      have hr2 : BytesAt w2 (.slice ua x1.length uc) x1 := ownsRow_rowAt ho2
      have hub : ∀ i, Value.inBlock (.slice ua x1.length uc) i → w.heap.size ≤ i ∧ w1.heap.size ≤ i := fun i hi => by
        have h7 := (ho2.lt i (inBlock_own hi)).1
        have h8 := Hk1.out.size
        omega
      have hvb : ∀ i, (Value.slice va F vc).ownBlock = some i → i < w1.heap.size := fun i hi => by
        obtain ⟨pvs', p1, _⟩ := Hown1.out
        exact (p1.lt i hi).2
      have Ho1 := Lib.hid o1
      have Ho2 := Lib.hid o2
      have Ho3 := Lib.hid o3
      have Hr2 := Lib.hid hr2
      have Hub := Lib.hid hub
      have Hvb := Lib.hid hvb
      have Hn2 := Lib.hid hn2
      have hfl2 : F + 1 ≤ maxLen := by unfold maxLen; omega
      have hb2 : w.heap.size ≤ w2.heap.size := (Hk1.out.then hn2).size
      have Ho1' : Hid (w2.ownsRow w.heap.size 23 1 (.slice va F vc) F pvs) := by show World.ownsRow _ _ _ _ _ _ _; rw [← HF.out]; rw [← HF.out] at o1; exact o1
      clear o1 o2 o3 hr2 hub hvb hn2 ho2
      go_wp2_with (at_builtin; refine wpList_append_row rfl _ _ 40 rfl w.heap.size 23 i0 (.slice none 0 0) 1 24 Tryd.underlying40 hi hz0 hz1 hz2 rfl (by decide) _ F pvs rfl (Ho1'.out.alloc _) (some ⟨w2.heap.size, 0, none⟩) 1 1 [.slice ua x1.length uc] rfl (fun e => by cases e) rfl ?c0 ?c1 hfl2 (by omega) (by simp; omega) ?_)
      case c0 =>
        intro a7 e7 j u hu
        cases e7
        cases j with
        | zero => simp at hu; subst hu; simp [Addr.add]
        | succ j => simp at hu
      case c1 => simp [Value.oneCell']
      intro a3 c3 w3 ho3 hg3 hb3
      have H3 : Hid (CoInv ev w b bb br d st0 st' fs x er k (.slice a3 (F + 1) c3) (.int .i64 ((J + x1.length : Nat) : Int)) .nilIface w3) := by
        have hk3 : Keep (fun i => (Value.slice va F vc).ownBlock = some i) w2 w3 := ((Keep.refl (fun i => (Value.slice va F vc).ownBlock = some i) w2).alloc _).grown hg3 (fun i hi => .inl hi)
        have hst := Hst1.out
        have hge : ∀ i, (Value.slice va F vc).ownBlock = some i → w.heap.size ≤ i := fun i e => (Ho1'.out.lt i e).1
        have h13 : Keep (fun i => w.heap.size ≤ i) w1 w3 := (Hn2.out.mono (fun _ _ f => f.elim)).trans hk3 (fun i _ e => hge i e)
        have hat3 : RdAt ev w3 b bb br st1 := Hat1.out.keep h13 ⟨by omega, by omega, by omega⟩ (fun i _ e => Hfar.out i e)
        have hjs : (joined (fs0 ++ [x1])).length = J + x1.length := by rw [joined_snoc, List.length_append, HJ.out]
        have hl2 : (fs0 ++ [x1]).length = F + 1 := by rw [List.length_append, HF.out]; rfl
        refine ⟨rfl, a3, c3, st1, fs0 ++ [x1], by rw [hl2], hst.fit, hat3, Hsame.out.trans hst.same, ?_, ?_, ?_, by rw [hjs], ?_, ?_, ?_⟩
        · have h4 := Hlt.out
          have h5 := Hx1l.out
          have h6 := HS16.out
          rw [Hsz1.out]
          rw [Nat.succ_mul] at h4
          omega
        · have h4 := Hfr2.out
          rw [← h4]
          simp
        · refine FragsOwn.snoc (u := .slice ua x1.length uc) (k0 := w1.heap.size) Ho1.out Ho2.out Ho3.out Hr2.out Hub.out Hvb.out ?_ hg3 (by simpa using hb3)
          rw [HF.out]
          exact ho3
        · have h4 := Hsum.out
          have h5 := Hx1l.out
          have h6 := HJ.out
          omega
        · have h4 := Hmin.out
          have h5 := HJ.out
          have h6 := HF.out
          omega
        · exact (Hk1.out.then Hn2.out).trans hk3 (fun i hi e => by have := hge i e; omega)
      clear ho3 hg3 hb3
      go_wp2
      go_roundg k
      case measure => omega
      case rel => exact H3.out
    · rw [Rd.frags_last (by rw [Hrs.out]; exact hfull), Hrs.out] at hfr2
      simp only [List.append_nil, Prod.mk.injEq] at hfr2
      obtain ⟨rfl, rfl, rfl, rfl⟩ := hfr2
      have hNN : J + x1.length = N := by rw [← HN.out, List.length_append, HJ.out]
      have hNi : (J : Int) + x1.length = N := by omega
      rcases hs2.kind with ⟨rfl, hx7⟩ | ⟨e2, hx7⟩ | ⟨rfl, hx7⟩
      · clear hs2 hE3 hat1 hk1 hx1 hx1l hfull hNN hx7
        rw [erV_none]
        go_wp2
        (try simp only [Exit.inBlock, Exit.then]); refine bodyPost_ret (results_tmp4 rfl _ _ _) rfl ?_
        exact ⟨_, xa, xc, by first | rfl | (rw [hNi]; rfl) | (rw [← hNi]; rfl), Hown1.out, Hx1.out, Hat1.out, Hk1.out⟩
      · exact absurd e2 hfull
      · have q1 := neq_other hE3.e0 hE3.e1 (hE3.ne 0 1 (by omega) (by omega) (by omega))
        clear hs2 hE3 hat1 hk1 hx1 hx1l hfull hNN hx7
        rw [erV_ends]
        go_wp2
        (try simp only [Exit.inBlock, Exit.then]); refine bodyPost_ret (results_tmp4 rfl _ _ _) rfl ?_
        exact ⟨_, xa, xc, by first | rfl | (rw [hNi]; rfl) | (rw [← hNi]; rfl), Hown1.out, Hx1.out, Hat1.out, Hk1.out⟩
end Go.Proofs.YtfigpbcmnlkdjaaDoor
