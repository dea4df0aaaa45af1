/-
  Calls of plain data in plain words, and the walk of the laws' own writes.
-/
import Derived.Test.YtjihbkmbbcdnfaaDoorRun4
import Derived.Test.YtjihbkmbbcdnfaaDoorEx4
namespace Go.Proofs.YtjihbkmbbcdnfaaDoor
open Go.RowKit

/-- The call number i of writes. -/
def writesAt (ks : List Int) (ps : List (List UInt8)) (rs : List Int) (i : Nat) : CallR :=
  ⟨ks.getD i 0, rs.getD i 0, (ps.getD i []).headD 0, ps.getD i []⟩
def writesR (ks : List Int) (ps : List (List UInt8)) (rs : List Int) : List CallR := (List.range ks.length).map (writesAt ks ps rs)
theorem writesR_length (ks : List Int) (ps : List (List UInt8)) (rs : List Int) : (writesR ks ps rs).length = ks.length := by simp [writesR]
theorem writesR_take (ks : List Int) (ps : List (List UInt8)) (rs : List Int) (k : Nat) (h : k < ks.length) : (writesR ks ps rs).take (k + 1) = (writesR ks ps rs).take k ++ [writesAt ks ps rs k] := by
  rw [List.take_succ_eq_append_getElem (by rw [writesR_length]; exact h)]
  simp [writesR]

theorem callsV_snoc : ∀ (cs : List CallR) (bvs : List Value) (c : CallR) (bv : Value), bvs.length = cs.length → callsV (cs ++ [c]) (bvs ++ [bv]) = callsV cs bvs ++ (callA c bv).toList
  | [], [], c, bv, _ => by simp [callsV]
  | x :: cs, y :: bvs, c, bv, h => by
    have h' : bvs.length = cs.length := by simpa using h
    simp [callsV, callsV_snoc cs bvs c bv h']
  | [], _ :: _, _, _, h => by simp at h
  | _ :: _, [], _, _, h => by simp at h

/-- A row of calls of one's own: the bytes of each in no block of the row. -/
structure CallsOwn (w : World) (base : Nat) (v : Value) (cs : List CallR) (bvs : List Value) : Prop where
  own : w.ownsRow base 44 4 v cs.length (callsV cs bvs)
  len : bvs.length = cs.length
  row : ∀ (j : Nat) (u : Value) (x : CallR), bvs[j]? = some u → cs[j]? = some x → BytesAt w u x.bytes
  apart : ∀ (j : Nat) (u : Value) (i : Nat), bvs[j]? = some u → Value.inBlock u i → v.ownBlock ≠ some i

theorem CallsOwn.new {w w' : World} {base : Nat} {v : Value} {cs : List CallR} {bvs : List Value} (h : CallsOwn w base v cs bvs) (k : New w w') : CallsOwn w' base v cs bvs :=
  ⟨ownsRow_keep h.own k (fun _ _ f => f), h.len, fun j u x hu hx => (h.row j u x hu hx).new k, h.apart⟩

theorem CallsOwn.calls {w : World} {base : Nat} {v : Value} {cs : List CallR} {bvs : List Value} (h : CallsOwn w base v cs bvs) : CallsAt w v cs := by
  obtain ⟨hl, hr⟩ := h.own
  rcases hr with ⟨rfl, h0⟩ | ⟨g, cap, cur, rfl, hb, hg, h1, h2, h3, h4⟩
  · have : cs = [] := List.eq_nil_of_length_eq_zero h0
    subst this
    exact ⟨none, 0, bvs, rfl, Nat.le_refl _, by unfold maxLen; omega, fun _ => rfl, h.len, (fun ad e => by cases e), h.row⟩
  · refine ⟨some ⟨g, 0, none⟩, cap, bvs, rfl, h1, h2, (fun e => by cases e), h.len, fun ad e => ?_, h.row⟩
    cases e
    exact fun j u hu => World.ownsRow.cells (v := .slice (some ⟨g, 0, none⟩) cs.length cap) h.own rfl j u hu

/-- One call more. -/
theorem CallsOwn.snoc {w w1 w2 w' : World} {base : Nat} {v v' : Value} {cs : List CallR} {bvs : List Value} {x : CallR} {bv : Value} (h : CallsOwn w base v cs bvs) (k : New w w1) (hbv : BytesAt w1 bv x.bytes) (hap : ∀ i, Value.inBlock bv i → w.heap.size ≤ i)
    (k2 : New w1 w2) (hg : w2.grownBy w' v.ownBlock) (ho : w'.ownsRow base 44 4 v' (cs.length + 1) (callsV cs bvs ++ (callA x bv).toList)) (hb : ∀ i, v'.ownBlock = some i → v.ownBlock = some i ∨ i = w2.heap.size) :
    CallsOwn w' base v' (cs ++ [x]) (bvs ++ [bv]) := by
  have hkg : Keep (fun i => v.ownBlock = some i) w2 w' := (Keep.refl _ w2).grown hg (fun i hi => .inl hi)
  have hsz := k.size
  have hsz2 := k2.size
  have hvlt : ∀ i, v.ownBlock = some i → i < w.heap.size := fun i hi => (h.own.lt i hi).2
  have get : ∀ (j : Nat) (u : Value), (bvs ++ [bv])[j]? = some u → (j < bvs.length ∧ bvs[j]? = some u) ∨ (j = bvs.length ∧ u = bv) := fun j u hu => by
    by_cases e : j < bvs.length
    · rw [List.getElem?_append_left e] at hu; exact .inl ⟨e, hu⟩
    · rw [List.getElem?_append_right (by omega)] at hu
      have := (List.getElem?_eq_some_iff.1 hu).1
      simp at this
      have e2 : j = bvs.length := by omega
      subst e2
      simp at hu
      exact .inr ⟨rfl, hu.symm⟩
  refine ⟨by rw [callsV_snoc cs bvs x bv h.len]; simpa using ho, by simp [h.len], fun j u y hu hy => ?_, fun j u i hu hi => ?_⟩
  · rcases get j u hu with ⟨e, hu'⟩ | ⟨e, rfl⟩
    · rw [List.getElem?_append_left (by rw [← h.len]; exact e)] at hy
      have hr : BytesAt w2 u y.bytes := ((h.row j u y hu' hy).new k).new k2
      exact RowAt.keep hr hkg (fun i hi e => h.apart j u i hu' hi e)
    · rw [e, h.len, List.getElem?_append_right (Nat.le_refl _), Nat.sub_self] at hy
      simp at hy
      subst hy
      exact RowAt.keep (RowAt.new hbv k2) hkg (fun i hi e => by have := hap i hi; have := hvlt i e; omega)
  · intro e
    rcases hb i e with e | e
    · rcases get j u hu with ⟨_, hu'⟩ | ⟨_, rfl⟩
      · exact h.apart j u i hu' hi e
      · have := hap i hi; have := hvlt i e; omega
    · subst e
      rcases get j u hu with ⟨e2, hu'⟩ | ⟨_, rfl⟩
      · obtain ⟨y, hy⟩ : ∃ y, cs[j]? = some y := ⟨_, List.getElem?_eq_getElem (by rw [← h.len]; exact e2)⟩
        have := RowAt.lt (h.row j u y hu' hy) _ hi
        omega
      · have := RowAt.lt hbv _ hi
        omega

section
variable {P : Program} {w : World}
/-- append onto nil. -/
theorem wpList_append_nil {ops : Array Oper} {rest : List Oper} {o : Oper} {a : Act} {Q : Exit → Act → World → Prop} (hgd : o.guard = none) (s x : Operand) (t : TypeId)
    (ho : o.op = .call { callee := .builtin .append, args := #[s, x], argTypes := #[t, t] })
    (base : Nat) (e : TypeId) (i : TypeInfo) (z : Value) (size bytes : Nat) (ht : P.underlying t = some (.slice e)) (hi : P.info? e = some i) (hz : i.zero = some z)
    (hsize : i.size = size) (hby : i.bytes = bytes) (hzs : z.cells.size = size) (hsz : 0 < size)
    (hs : a.eval s = .slice none 0 0)
    (ao : Option Addr) (m c : Nat) (news : List Value) (hx : a.eval x = .slice ao m c) (hnone : ao = none → m = 0 ∧ c = 0) (hl : news.length = m * size) (hnews : ∀ ad, ao = some ad → CellsAt w ad news) (h1 : ∀ u ∈ news, u.oneCell' = true)
    (h63 : m ≤ maxLen) (hbytes : m * bytes ≤ 140737488355328) (hbase : base ≤ w.heap.size)
    (h : ∀ a' c' w', w'.ownsRow base e size (.slice a' m c') m news → New w w' → (∀ k, (Value.slice a' m c').ownBlock = some k → k = w.heap.size) → wpList P ops Q rest (a.put o.dst (.slice a' m c')) w') : wpList P ops Q (o :: rest) a w :=
  wpList_append_row hgd s x t ho base e i z size bytes ht hi hz hsize hby hzs hsz (.slice none 0 0) 0 [] hs (World.ownsRow_nil _ _ _ _) ao m c news hx hnone hl hnews h1 (by omega) (by rw [Nat.zero_add]; exact hbytes) hbase
    fun a' c' w' h2 h3 h4 => by
      rw [Nat.zero_add] at h2 h4 ⊢
      rw [List.nil_append] at h2
      exact h a' c' w' h2 (New.of_grown h3) (fun k hk => by
        rcases h4 k hk with h5 | h5
        · cases h5
        · exact h5)
end

def WsInv (w : World) (ks : List Int) (ps : List (List UInt8)) (rs : List Int) (g : Nat) (v i : Value) (wr : World) : Prop :=
  ∃ (k : Nat) (ao : Option Addr) (co : Nat) (bvs : List Value), k ≤ ks.length ∧ i = .int .i64 k ∧ v = .slice ao k co ∧ CallsOwn wr w.heap.size v ((writesR ks ps rs).take k) bvs ∧ New w wr ∧ g = ks.length - k

theorem IntsAt.cell {w : World} {a : Option Addr} {n c : Nat} {l : List Int} (h : IntsAt w (.slice a n c) l) {k : Nat} (hk : k < l.length) : ∃ b o, a = some ⟨b, o, none⟩ ∧ w.cell? ⟨b, o + k, none⟩ = some (.int .i64 (l.getD k 0)) := by
  obtain ⟨b, o, e, hc⟩ := RowAt.one h (i := k) (by rw [intsV_length]; exact hk)
  refine ⟨b, o, e, ?_⟩
  rw [hc k (by rw [intsV_length]; exact hk)]
  simp [intsV, intV, hk]

theorem IntsAt.len {w : World} {v : Value} {l : List Int} (h : IntsAt w v l) : ∃ a c, v = .slice a l.length c ∧ l.length ≤ 9223372036854775807 := by
  obtain ⟨a, c, e, h1, h2, _⟩ := h
  rw [intsV_length] at e h1
  exact ⟨a, c, e, by unfold maxLen at h2; omega⟩

set_option maxRecDepth 100000 in
set_option maxHeartbeats 4000000 in
theorem writes_any (w : World) (v1 v2 v3 : Value) (ks : List Int) (ps : List (List UInt8)) (rs : List Int) (h1 : IntsAt w v1 ks) (h2 : PartsAt w v2 ps) (h3 : IntsAt w v3 rs) (hk : ks.length ≤ 1099511627776) (hp : (joined ps).length ≤ 140737488355328) :
    Calls Tryd.prog 24 #[v1, v2, v3] w fun e w' => ∃ a c bvs, e = .returned (.slice a ks.length c) ∧ CallsOwn w' w.heap.size (.slice a ks.length c) (writesR ks ps rs) bvs ∧ New w w' := by
  obtain ⟨a1, c1, rfl, m1⟩ := h1.len
  obtain ⟨a2, c2, rfl, m2⟩ := h2.len
  obtain ⟨a3, c3, rfl, m3⟩ := h3.len
  obtain ⟨i0, hi, hz0, hz1, hz2⟩ := info_parts infoByte
  obtain ⟨j0, hj, hy0, hy1, hy2⟩ := info_parts infoCall
  have H1 := Lib.hid h1
  have H2 := Lib.hid h2
  have H3 := Lib.hid h3
  have H0 : Hid (WsInv w ks ps rs ks.length (.slice none 0 0) (.int .i64 0) w) := ⟨0, none, 0, [], Nat.zero_le _, rfl, rfl, ⟨by simpa [callsV] using World.ownsRow_nil w w.heap.size 44 4, rfl, fun j u x hu => by simp at hu, fun j u i hu => by simp at hu⟩, Keep.refl _ _, rfl⟩
  clear h1 h2 h3
  go_enter Tryd.func24, Tryd.ntmps24
  go_wp2_with fail
  go_loopg [7, 13, 8, 9, 10] ks.length (fun g v i x8 x9 x10 wr => WsInv w ks ps rs g v i wr)
  case atStart => exact H0.out
  case round =>
    obtain ⟨k, ao, co, bvs, hkk, rfl, rfl, hco, hnw, rfl⟩ := hrel
    have htl : ((writesR ks ps rs).take k).length = k := by simp [writesR_length]; omega
    by_cases hlt : k < ks.length
    · obtain ⟨bk, ok, rfl, ck⟩ := (IntsAt.new H1.out hnw).cell hlt
      have hwt := writesR_take ks ps rs k hlt
      have hlt' : (k : Int) < ks.length := by omega
      have hwx : ∃ kd, kd = ks.getD k 0 := ⟨_, rfl⟩
      obtain ⟨kd, hkd⟩ := hwx
      rw [← hkd] at ck
      have Hkd := Lib.hid hkd
      have Hwt := Lib.hid hwt
      have Hco := Lib.hid hco
      have Hnw := Lib.hid hnw
      have Htl := Lib.hid htl
      have hbase := hnw.size
      clear hwt hco htl hkd
      by_cases hrl : k < rs.length
      · by_cases hpl : k < ps.length
        · by_cases hpn : 0 < ps[k].length
          · obtain ⟨bp, op, au, cu, rfl, cp, rp⟩ := (H2.out.new Hnw.out).at hpl
            have hjl := joined_take_le ps (k + 1)
            have hjs := joined_take_succ ps k _ (List.getElem?_eq_getElem hpl)
            obtain ⟨p, hpp⟩ : ∃ p, p = ps[k] := ⟨_, rfl⟩
            rw [← hpp] at cp rp hjs hpn
            have hpb : p.length ≤ 140737488355328 := by rw [hjs] at hjl; simp at hjl; omega
            have Hpp : Hid (ps.getD k [] = p) := by show _ = _; rw [hpp]; simp [hpl]
            have Hrp := Lib.hid rp
            have hpl' : (k : Int) < ps.length := by omega
            clear hjl hjs hpp
            obtain ⟨b0, o0, rfl, q0⟩ := bytes_one rp (i := 0) hpn
            have c0 := q0 0 hpn
            obtain ⟨u0, hu0⟩ : ∃ u0 : UInt8, u0 = p[0] := ⟨_, rfl⟩
            rw [← hu0, Nat.add_zero] at c0
            have Hu0 : Hid (p.headD 0 = u0) := by
              show _ = _
              rw [hu0]
              cases p with
              | nil => simp at hpn
              | cons x r => rfl
            have b0' := u0.toNat_lt
            have hpn' : ¬ ((p.length : Int) ≤ 0) := by omega
            clear q0 hu0
            clear rp
            obtain ⟨br, or, rfl, cr⟩ := (IntsAt.new H3.out Hnw.out).cell hrl
            obtain ⟨rn, hrn⟩ : ∃ rn, rn = rs.getD k 0 := ⟨_, rfl⟩
            rw [← hrn] at cr
            have Hrn := Lib.hid hrn
            have hrl' : (k : Int) < rs.length := by omega
            clear hrn
            have hna : New wr (wr.alloc (.cells #[.int .i64 kd, .int .i64 0, .int .u8 0, .slice none 0 0] 44)) := (Keep.refl _ _).alloc _
            have HNA := Lib.hid hna
            have crA := New.cellAt hna cr
            have hbnr : br < wr.heap.size := World.block_lt_of_cell? wr _ cr
            have hner : ¬ br = wr.heap.size := by omega
            have hner2 : ¬ wr.heap.size = br := by omega
            have cpA := New.cellAt hna cp
            have hbnp : bp < wr.heap.size := World.block_lt_of_cell? wr _ cp
            have hnep : ¬ bp = wr.heap.size := by omega
            have hnep2 : ¬ wr.heap.size = bp := by omega
            have c0A := New.cellAt hna c0
            have hbn0 : b0 < wr.heap.size := World.block_lt_of_cell? wr _ c0
            have hne0 : ¬ b0 = wr.heap.size := by omega
            have hne02 : ¬ wr.heap.size = b0 := by omega
            have HRp : Hid (BytesAt (wr.alloc (.cells #[.int .i64 kd, .int .i64 0, .int .u8 0, .slice none 0 0] 44)) (.slice (some ⟨b0, o0, none⟩) p.length cu) p) := Hrp.out.new hna
            have Hpv := Lib.hid (bytesV_length p)
            have hHC : (wr.alloc (.cells #[.int .i64 kd, .int .i64 0, .int .u8 0, .slice none 0 0] 44)).heap[wr.heap.size]? = some (.cells #[.int .i64 kd, .int .i64 0, .int .u8 0, .slice none 0 0] 44 (0, 0)) := heap_alloc_new _ _
            have HHC := Lib.hid hHC
            clear hna hHC
            go_wp2_with (at_builtin; refine wpList_append_nil rfl _ _ 27 rfl wr.heap.size 5 i0 (.int .u8 0) 1 1 Tryd.underlying27 hi hz0 hz1 hz2 rfl (by decide) rfl (some ⟨b0, o0, none⟩) p.length cu (bytesV p) rfl (RowAt.parts HRp.out).2.2.1 (by first | (rw [Hpv.out]; done) | (rw [Hpv.out]; omega) | (simp [bytesV]; done)) (RowAt.parts HRp.out).2.2.2 (bytesV_one _) (by unfold maxLen; omega) (by omega) (by simp) ?_)
            intro a5 c5 w5 ho5 hn5 hb5
            have h65 := (hn5.block _ (Array.getElem?_eq_some_iff.1 HHC.out).1 (fun f => f)).trans HHC.out
            have x0 := cell_of (o := 0) h65 rfl
            have x1 := cell_of (o := 1) h65 rfl
            have x2 := cell_of (o := 2) h65 rfl
            have x3 := cell_of (o := 3) h65 rfl
            have y0 := frozen_of (o := 0) h65
            have y1 := frozen_of (o := 1) h65
            have y2 := frozen_of (o := 2) h65
            have y3 := frozen_of (o := 3) h65
            have cp5 := New.cellAt hn5 cpA
            have c05 := New.cellAt hn5 c0A
            have cr5 := New.cellAt hn5 crA
            have Hn5 := Lib.hid (HNA.out.then hn5)
            have hw5z := (HNA.out.then hn5).size
            have Ho5 : Hid (BytesAt w5 (.slice a5 p.length c5) p) := ownsRow_rowAt ho5
            have Hap5 : Hid (∀ i, Value.inBlock (.slice a5 p.length c5) i → wr.heap.size ≤ i ∧ i ≠ wr.heap.size) := fun i hi => by
              have h7 := hb5 i (inBlock_own hi)
              first | omega | (simp at h7; omega)
            clear h65 ho5 hn5 hb5
            have hW : New wr (((w5.setCell ⟨wr.heap.size, 3, none⟩ (.slice a5 p.length c5)).setCell ⟨wr.heap.size, 2, none⟩ (.int .u8 (u0.toNat : Int))).setCell ⟨wr.heap.size, 1, none⟩ (.int .i64 rn)) := (((Hn5.out).setCell (p := ⟨wr.heap.size, 3, none⟩) (.inr (Nat.le_refl _)) _).setCell (p := ⟨wr.heap.size, 2, none⟩) (.inr (Nat.le_refl _)) _).setCell (p := ⟨wr.heap.size, 1, none⟩) (.inr (Nat.le_refl _)) _
            have hBW : BytesAt (((w5.setCell ⟨wr.heap.size, 3, none⟩ (.slice a5 p.length c5)).setCell ⟨wr.heap.size, 2, none⟩ (.int .u8 (u0.toNat : Int))).setCell ⟨wr.heap.size, 1, none⟩ (.int .i64 rn)) (.slice a5 p.length c5) p := RowAt.keep (S := fun i => i = wr.heap.size) Ho5.out ((((Keep.refl _ _).set1 3 _).set1 2 _).set1 1 _) (fun i hi e => (Hap5.out i hi).2 e)
            have HW := Lib.hid hW
            have HBW := Lib.hid hBW
            have HAW : Hid (∀ i, Value.inBlock (.slice a5 p.length c5) i → wr.heap.size ≤ i) := fun i hi => (Hap5.out i hi).1
            have hk40 : k ≤ 1099511627776 := by omega
            have hwsz := hW.size
            have HX5 : Hid (((((w5.setCell ⟨wr.heap.size, 3, none⟩ (.slice a5 p.length c5)).setCell ⟨wr.heap.size, 2, none⟩ (.int .u8 (u0.toNat : Int))).setCell ⟨wr.heap.size, 1, none⟩ (.int .i64 rn)).alloc (.cells #[.int .i64 kd, .int .i64 (rn), .int .u8 ((u0.toNat : Int)), .slice a5 p.length c5] 44)).ownsRow w.heap.size 44 4 (.slice ao k co) k (callsV ((writesR ks ps rs).take k) bvs)) := by
              have h8 := ownsRow_keep Hco.out.own hW (fun _ _ f => f)
              rw [Htl.out] at h8
              exact h8.alloc _
            have HE0 : Hid (∀ ad', some (⟨w5.heap.size, 0, none⟩ : Addr) = some ad' → CellsAt ((((w5.setCell ⟨wr.heap.size, 3, none⟩ (.slice a5 p.length c5)).setCell ⟨wr.heap.size, 2, none⟩ (.int .u8 (u0.toNat : Int))).setCell ⟨wr.heap.size, 1, none⟩ (.int .i64 rn)).alloc (.cells #[.int .i64 kd, .int .i64 (rn), .int .u8 ((u0.toNat : Int)), .slice a5 p.length c5] 44)) ad' [.int .i64 kd, .int .i64 (rn), .int .u8 ((u0.toNat : Int)), .slice a5 p.length c5]) := by
              intro ad' e' j u hu
              cases e'
              have h8 := cell_new (((w5.setCell ⟨wr.heap.size, 3, none⟩ (.slice a5 p.length c5)).setCell ⟨wr.heap.size, 2, none⟩ (.int .u8 (u0.toNat : Int))).setCell ⟨wr.heap.size, 1, none⟩ (.int .i64 rn)) #[.int .i64 kd, .int .i64 (rn), .int .u8 ((u0.toNat : Int)), .slice a5 p.length c5] 44 j
              have hsz8 : (((w5.setCell ⟨wr.heap.size, 3, none⟩ (.slice a5 p.length c5)).setCell ⟨wr.heap.size, 2, none⟩ (.int .u8 (u0.toNat : Int))).setCell ⟨wr.heap.size, 1, none⟩ (.int .i64 rn)).heap.size = w5.heap.size := by simp
              rw [hsz8] at h8
              rw [addr_add, Nat.zero_add]
              exact h8.trans (by simpa using hu)
            have HE1 : Hid (∀ u ∈ [(.int .i64 kd : Value), .int .i64 (rn), .int .u8 ((u0.toNat : Int)), .slice a5 p.length c5], u.oneCell' = true) := by
              intro u hu
              simp at hu
              rcases hu with rfl | rfl | rfl | rfl <;> rfl
            clear hW hBW
            go_wp2_with (at_builtin; refine wpList_append_row rfl _ _ 41 rfl w.heap.size 44 j0 (.agg #[.int .i64 0, .int .i64 0, .int .u8 0, .slice none 0 0]) 4 48 Tryd.underlying41 hj hy0 hy1 hy2 (by rfl) (by decide) _ k (callsV ((writesR ks ps rs).take k) bvs) rfl HX5.out (some ⟨w5.heap.size, 0, none⟩) 1 1 [.int .i64 kd, .int .i64 (rn), .int .u8 ((u0.toNat : Int)), .slice a5 p.length c5] (by rfl) (by intro e; cases e) (by rfl) HE0.out HE1.out (by unfold maxLen; omega) (by omega) (by simp; omega) ?_)
            intro a7 c7 w7 ho7 hg7 hb7
            have hn6 : New (((w5.setCell ⟨wr.heap.size, 3, none⟩ (.slice a5 p.length c5)).setCell ⟨wr.heap.size, 2, none⟩ (.int .u8 (u0.toNat : Int))).setCell ⟨wr.heap.size, 1, none⟩ (.int .i64 rn)) ((((w5.setCell ⟨wr.heap.size, 3, none⟩ (.slice a5 p.length c5)).setCell ⟨wr.heap.size, 2, none⟩ (.int .u8 (u0.toNat : Int))).setCell ⟨wr.heap.size, 1, none⟩ (.int .i64 rn)).alloc (.cells #[.int .i64 kd, .int .i64 (rn), .int .u8 ((u0.toNat : Int)), .slice a5 p.length c5] 44)) := (Keep.refl _ _).alloc _
            have hx : writesAt ks ps rs k = ⟨kd, rn, u0, p⟩ := by
              unfold writesAt
              rw [← Hkd.out, ← Hrn.out, Hpp.out]
              rw [Hu0.out]
            have h9 : CallsOwn w7 w.heap.size (.slice a7 (k + 1) c7) ((writesR ks ps rs).take (k + 1)) (bvs ++ [.slice a5 p.length c5]) := by
              rw [Hwt.out, hx]
              refine Hco.out.snoc HW.out HBW.out HAW.out hn6 hg7 ?_ (fun i hi => ?_)
              · rw [Htl.out]; exact ho7
              · rcases hb7 i hi with h | h
                · exact .inl h
                · right; rw [h]; simp
            have H7 : Hid (WsInv w ks ps rs (ks.length - (k + 1)) (.slice a7 (k + 1) c7) (.int .i64 ((k : Int) + 1)) w7) := by
              refine ⟨k + 1, a7, c7, _, hlt, by rw [show (((k + 1 : Nat)) : Int) = (k : Int) + 1 by omega], rfl, h9, ?_, rfl⟩
              exact ((Hnw.out.then HW.out).then hn6).trans ((Keep.refl (fun i => (Value.slice ao k co).ownBlock = some i) _).grown hg7 (fun i hi => .inl hi)) (fun i hi e => by have := (Hco.out.own.lt i e).1; omega)
            clear ho7 hg7 hb7 hn6 hx h9
            go_wp2
            go_roundg (ks.length - (k + 1))
            case measure => omega
            case rel => exact H7.out
          · obtain ⟨bp, op, au, cu, rfl, cp, rp⟩ := (H2.out.new Hnw.out).at hpl
            have hjl := joined_take_le ps (k + 1)
            have hjs := joined_take_succ ps k _ (List.getElem?_eq_getElem hpl)
            obtain ⟨p, hpp⟩ : ∃ p, p = ps[k] := ⟨_, rfl⟩
            rw [← hpp] at cp rp hjs hpn
            have hpb : p.length ≤ 140737488355328 := by rw [hjs] at hjl; simp at hjl; omega
            have Hpp : Hid (ps.getD k [] = p) := by show _ = _; rw [hpp]; simp [hpl]
            have Hrp := Lib.hid rp
            have hpl' : (k : Int) < ps.length := by omega
            clear hjl hjs hpp
            obtain rfl : p = [] := List.eq_nil_of_length_eq_zero (by omega)
            rw [List.length_nil] at cp rp
            clear hpn
            clear rp
            obtain ⟨br, or, rfl, cr⟩ := (IntsAt.new H3.out Hnw.out).cell hrl
            obtain ⟨rn, hrn⟩ : ∃ rn, rn = rs.getD k 0 := ⟨_, rfl⟩
            rw [← hrn] at cr
            have Hrn := Lib.hid hrn
            have hrl' : (k : Int) < rs.length := by omega
            clear hrn
            have hna : New wr (wr.alloc (.cells #[.int .i64 kd, .int .i64 0, .int .u8 0, .slice none 0 0] 44)) := (Keep.refl _ _).alloc _
            have HNA := Lib.hid hna
            have crA := New.cellAt hna cr
            have hbnr : br < wr.heap.size := World.block_lt_of_cell? wr _ cr
            have hner : ¬ br = wr.heap.size := by omega
            have hner2 : ¬ wr.heap.size = br := by omega
            have cpA := New.cellAt hna cp
            have hbnp : bp < wr.heap.size := World.block_lt_of_cell? wr _ cp
            have hnep : ¬ bp = wr.heap.size := by omega
            have hnep2 : ¬ wr.heap.size = bp := by omega
            have HRp : Hid (BytesAt (wr.alloc (.cells #[.int .i64 kd, .int .i64 0, .int .u8 0, .slice none 0 0] 44)) (.slice au 0 cu) ([] : List UInt8)) := Hrp.out.new hna
            have Hpv := Lib.hid (bytesV_length ([] : List UInt8))
            have hHC : (wr.alloc (.cells #[.int .i64 kd, .int .i64 0, .int .u8 0, .slice none 0 0] 44)).heap[wr.heap.size]? = some (.cells #[.int .i64 kd, .int .i64 0, .int .u8 0, .slice none 0 0] 44 (0, 0)) := heap_alloc_new _ _
            have HHC := Lib.hid hHC
            clear hna hHC
            go_wp2_with (at_builtin; refine wpList_append_nil rfl _ _ 27 rfl wr.heap.size 5 i0 (.int .u8 0) 1 1 Tryd.underlying27 hi hz0 hz1 hz2 rfl (by decide) rfl (au) 0 cu (bytesV ([] : List UInt8)) rfl (RowAt.parts HRp.out).2.2.1 (by first | (rw [Hpv.out]; done) | (rw [Hpv.out]; omega) | (simp [bytesV]; done)) (RowAt.parts HRp.out).2.2.2 (bytesV_one _) (by unfold maxLen; omega) (by omega) (by simp) ?_)
            intro a5 c5 w5 ho5 hn5 hb5
            have h65 := (hn5.block _ (Array.getElem?_eq_some_iff.1 HHC.out).1 (fun f => f)).trans HHC.out
            have x0 := cell_of (o := 0) h65 rfl
            have x1 := cell_of (o := 1) h65 rfl
            have x2 := cell_of (o := 2) h65 rfl
            have x3 := cell_of (o := 3) h65 rfl
            have y0 := frozen_of (o := 0) h65
            have y1 := frozen_of (o := 1) h65
            have y2 := frozen_of (o := 2) h65
            have y3 := frozen_of (o := 3) h65
            have cp5 := New.cellAt hn5 cpA
            have cr5 := New.cellAt hn5 crA
            have Hn5 := Lib.hid (HNA.out.then hn5)
            have hw5z := (HNA.out.then hn5).size
            have Ho5 : Hid (BytesAt w5 (.slice a5 0 c5) ([] : List UInt8)) := ownsRow_rowAt ho5
            have Hap5 : Hid (∀ i, Value.inBlock (.slice a5 0 c5) i → wr.heap.size ≤ i ∧ i ≠ wr.heap.size) := fun i hi => by
              have h7 := hb5 i (inBlock_own hi)
              first | omega | (simp at h7; omega)
            clear h65 ho5 hn5 hb5
            have hW : New wr ((w5.setCell ⟨wr.heap.size, 3, none⟩ (.slice a5 0 c5)).setCell ⟨wr.heap.size, 1, none⟩ (.int .i64 rn)) := ((Hn5.out).setCell (p := ⟨wr.heap.size, 3, none⟩) (.inr (Nat.le_refl _)) _).setCell (p := ⟨wr.heap.size, 1, none⟩) (.inr (Nat.le_refl _)) _
            have hBW : BytesAt ((w5.setCell ⟨wr.heap.size, 3, none⟩ (.slice a5 0 c5)).setCell ⟨wr.heap.size, 1, none⟩ (.int .i64 rn)) (.slice a5 0 c5) ([] : List UInt8) := RowAt.keep (S := fun i => i = wr.heap.size) Ho5.out (((Keep.refl _ _).set1 3 _).set1 1 _) (fun i hi e => (Hap5.out i hi).2 e)
            have HW := Lib.hid hW
            have HBW := Lib.hid hBW
            have HAW : Hid (∀ i, Value.inBlock (.slice a5 0 c5) i → wr.heap.size ≤ i) := fun i hi => (Hap5.out i hi).1
            have hk40 : k ≤ 1099511627776 := by omega
            have hwsz := hW.size
            have HX5 : Hid ((((w5.setCell ⟨wr.heap.size, 3, none⟩ (.slice a5 0 c5)).setCell ⟨wr.heap.size, 1, none⟩ (.int .i64 rn)).alloc (.cells #[.int .i64 kd, .int .i64 (rn), .int .u8 (0), .slice a5 0 c5] 44)).ownsRow w.heap.size 44 4 (.slice ao k co) k (callsV ((writesR ks ps rs).take k) bvs)) := by
              have h8 := ownsRow_keep Hco.out.own hW (fun _ _ f => f)
              rw [Htl.out] at h8
              exact h8.alloc _
            have HE0 : Hid (∀ ad', some (⟨w5.heap.size, 0, none⟩ : Addr) = some ad' → CellsAt (((w5.setCell ⟨wr.heap.size, 3, none⟩ (.slice a5 0 c5)).setCell ⟨wr.heap.size, 1, none⟩ (.int .i64 rn)).alloc (.cells #[.int .i64 kd, .int .i64 (rn), .int .u8 (0), .slice a5 0 c5] 44)) ad' [.int .i64 kd, .int .i64 (rn), .int .u8 (0), .slice a5 0 c5]) := by
              intro ad' e' j u hu
              cases e'
              have h8 := cell_new ((w5.setCell ⟨wr.heap.size, 3, none⟩ (.slice a5 0 c5)).setCell ⟨wr.heap.size, 1, none⟩ (.int .i64 rn)) #[.int .i64 kd, .int .i64 (rn), .int .u8 (0), .slice a5 0 c5] 44 j
              have hsz8 : ((w5.setCell ⟨wr.heap.size, 3, none⟩ (.slice a5 0 c5)).setCell ⟨wr.heap.size, 1, none⟩ (.int .i64 rn)).heap.size = w5.heap.size := by simp
              rw [hsz8] at h8
              rw [addr_add, Nat.zero_add]
              exact h8.trans (by simpa using hu)
            have HE1 : Hid (∀ u ∈ [(.int .i64 kd : Value), .int .i64 (rn), .int .u8 (0), .slice a5 0 c5], u.oneCell' = true) := by
              intro u hu
              simp at hu
              rcases hu with rfl | rfl | rfl | rfl <;> rfl
            clear hW hBW
            go_wp2_with (at_builtin; refine wpList_append_row rfl _ _ 41 rfl w.heap.size 44 j0 (.agg #[.int .i64 0, .int .i64 0, .int .u8 0, .slice none 0 0]) 4 48 Tryd.underlying41 hj hy0 hy1 hy2 (by rfl) (by decide) _ k (callsV ((writesR ks ps rs).take k) bvs) rfl HX5.out (some ⟨w5.heap.size, 0, none⟩) 1 1 [.int .i64 kd, .int .i64 (rn), .int .u8 (0), .slice a5 0 c5] (by rfl) (by intro e; cases e) (by rfl) HE0.out HE1.out (by unfold maxLen; omega) (by omega) (by simp; omega) ?_)
            intro a7 c7 w7 ho7 hg7 hb7
            have hn6 : New ((w5.setCell ⟨wr.heap.size, 3, none⟩ (.slice a5 0 c5)).setCell ⟨wr.heap.size, 1, none⟩ (.int .i64 rn)) (((w5.setCell ⟨wr.heap.size, 3, none⟩ (.slice a5 0 c5)).setCell ⟨wr.heap.size, 1, none⟩ (.int .i64 rn)).alloc (.cells #[.int .i64 kd, .int .i64 (rn), .int .u8 (0), .slice a5 0 c5] 44)) := (Keep.refl _ _).alloc _
            have hx : writesAt ks ps rs k = ⟨kd, rn, 0, ([] : List UInt8)⟩ := by
              unfold writesAt
              rw [← Hkd.out, ← Hrn.out, Hpp.out]
              rfl
            have h9 : CallsOwn w7 w.heap.size (.slice a7 (k + 1) c7) ((writesR ks ps rs).take (k + 1)) (bvs ++ [.slice a5 0 c5]) := by
              rw [Hwt.out, hx]
              refine Hco.out.snoc HW.out HBW.out HAW.out hn6 hg7 ?_ (fun i hi => ?_)
              · rw [Htl.out]; exact ho7
              · rcases hb7 i hi with h | h
                · exact .inl h
                · right; rw [h]; simp
            have H7 : Hid (WsInv w ks ps rs (ks.length - (k + 1)) (.slice a7 (k + 1) c7) (.int .i64 ((k : Int) + 1)) w7) := by
              refine ⟨k + 1, a7, c7, _, hlt, by rw [show (((k + 1 : Nat)) : Int) = (k : Int) + 1 by omega], rfl, h9, ?_, rfl⟩
              exact ((Hnw.out.then HW.out).then hn6).trans ((Keep.refl (fun i => (Value.slice ao k co).ownBlock = some i) _).grown hg7 (fun i hi => .inl hi)) (fun i hi e => by have := (Hco.out.own.lt i e).1; omega)
            clear ho7 hg7 hb7 hn6 hx h9
            go_wp2
            go_roundg (ks.length - (k + 1))
            case measure => omega
            case rel => exact H7.out
        · have hpl' : ¬ ((k : Int) < ps.length) := by omega
          have Hpp : Hid (ps.getD k [] = []) := by show _ = _; rw [List.getD_eq_getElem?_getD, List.getElem?_eq_none (by omega)]; rfl
          obtain ⟨br, or, rfl, cr⟩ := (IntsAt.new H3.out Hnw.out).cell hrl
          obtain ⟨rn, hrn⟩ : ∃ rn, rn = rs.getD k 0 := ⟨_, rfl⟩
          rw [← hrn] at cr
          have Hrn := Lib.hid hrn
          have hrl' : (k : Int) < rs.length := by omega
          clear hrn
          have hna : New wr (wr.alloc (.cells #[.int .i64 kd, .int .i64 0, .int .u8 0, .slice none 0 0] 44)) := (Keep.refl _ _).alloc _
          have HNA := Lib.hid hna
          have crA := New.cellAt hna cr
          have hbnr : br < wr.heap.size := World.block_lt_of_cell? wr _ cr
          have hner : ¬ br = wr.heap.size := by omega
          have hner2 : ¬ wr.heap.size = br := by omega
          clear hna
          have hW : New wr (wr.alloc (.cells #[.int .i64 kd, .int .i64 rn, .int .u8 0, .slice none 0 0] 44)) := (Keep.refl _ _).alloc _
          have hBW : BytesAt (wr.alloc (.cells #[.int .i64 kd, .int .i64 rn, .int .u8 0, .slice none 0 0] 44)) (.slice none 0 0) [] := ⟨none, 0, rfl, by simp [bytesV], by unfold maxLen; omega, fun _ => rfl, fun ad e => by cases e⟩
          have HW := Lib.hid hW
          have HBW := Lib.hid hBW
          have HAW : Hid (∀ i, Value.inBlock (.slice none 0 0) i → wr.heap.size ≤ i) := fun i hi => by obtain ⟨_, _, _, e, _⟩ := hi; simp at e
          have hk40 : k ≤ 1099511627776 := by omega
          have hwsz := hW.size
          have HX5 : Hid (((wr.alloc (.cells #[.int .i64 kd, .int .i64 rn, .int .u8 0, .slice none 0 0] 44)).alloc (.cells #[.int .i64 kd, .int .i64 (rn), .int .u8 (0), .slice none 0 0] 44)).ownsRow w.heap.size 44 4 (.slice ao k co) k (callsV ((writesR ks ps rs).take k) bvs)) := by
            have h8 := ownsRow_keep Hco.out.own hW (fun _ _ f => f)
            rw [Htl.out] at h8
            exact h8.alloc _
          have HE0 : Hid (∀ ad', some (⟨wr.heap.size + 1, 0, none⟩ : Addr) = some ad' → CellsAt ((wr.alloc (.cells #[.int .i64 kd, .int .i64 rn, .int .u8 0, .slice none 0 0] 44)).alloc (.cells #[.int .i64 kd, .int .i64 (rn), .int .u8 (0), .slice none 0 0] 44)) ad' [.int .i64 kd, .int .i64 (rn), .int .u8 (0), .slice none 0 0]) := by
            intro ad' e' j u hu
            cases e'
            have h8 := cell_new (wr.alloc (.cells #[.int .i64 kd, .int .i64 rn, .int .u8 0, .slice none 0 0] 44)) #[.int .i64 kd, .int .i64 (rn), .int .u8 (0), .slice none 0 0] 44 j
            have hsz8 : (wr.alloc (.cells #[.int .i64 kd, .int .i64 rn, .int .u8 0, .slice none 0 0] 44)).heap.size = wr.heap.size + 1 := by simp
            rw [hsz8] at h8
            rw [addr_add, Nat.zero_add]
            exact h8.trans (by simpa using hu)
          have HE1 : Hid (∀ u ∈ [(.int .i64 kd : Value), .int .i64 (rn), .int .u8 (0), .slice none 0 0], u.oneCell' = true) := by
            intro u hu
            simp at hu
            rcases hu with rfl | rfl | rfl | rfl <;> rfl
          clear hW hBW
          go_wp2_with (at_builtin; refine wpList_append_row rfl _ _ 41 rfl w.heap.size 44 j0 (.agg #[.int .i64 0, .int .i64 0, .int .u8 0, .slice none 0 0]) 4 48 Tryd.underlying41 hj hy0 hy1 hy2 (by rfl) (by decide) _ k (callsV ((writesR ks ps rs).take k) bvs) rfl HX5.out (some ⟨wr.heap.size + 1, 0, none⟩) 1 1 [.int .i64 kd, .int .i64 (rn), .int .u8 (0), .slice none 0 0] (by rfl) (by intro e; cases e) (by rfl) HE0.out HE1.out (by unfold maxLen; omega) (by omega) (by simp; omega) ?_)
          intro a7 c7 w7 ho7 hg7 hb7
          have hn6 : New (wr.alloc (.cells #[.int .i64 kd, .int .i64 rn, .int .u8 0, .slice none 0 0] 44)) ((wr.alloc (.cells #[.int .i64 kd, .int .i64 rn, .int .u8 0, .slice none 0 0] 44)).alloc (.cells #[.int .i64 kd, .int .i64 (rn), .int .u8 (0), .slice none 0 0] 44)) := (Keep.refl _ _).alloc _
          have hx : writesAt ks ps rs k = ⟨kd, rn, 0, []⟩ := by
            unfold writesAt
            rw [← Hkd.out, ← Hrn.out, Hpp.out]
            rfl
          have h9 : CallsOwn w7 w.heap.size (.slice a7 (k + 1) c7) ((writesR ks ps rs).take (k + 1)) (bvs ++ [.slice none 0 0]) := by
            rw [Hwt.out, hx]
            refine Hco.out.snoc HW.out HBW.out HAW.out hn6 hg7 ?_ (fun i hi => ?_)
            · rw [Htl.out]; exact ho7
            · rcases hb7 i hi with h | h
              · exact .inl h
              · right; rw [h]; simp
          have H7 : Hid (WsInv w ks ps rs (ks.length - (k + 1)) (.slice a7 (k + 1) c7) (.int .i64 ((k : Int) + 1)) w7) := by
            refine ⟨k + 1, a7, c7, _, hlt, by rw [show (((k + 1 : Nat)) : Int) = (k : Int) + 1 by omega], rfl, h9, ?_, rfl⟩
            exact ((Hnw.out.then HW.out).then hn6).trans ((Keep.refl (fun i => (Value.slice ao k co).ownBlock = some i) _).grown hg7 (fun i hi => .inl hi)) (fun i hi e => by have := (Hco.out.own.lt i e).1; omega)
          clear ho7 hg7 hb7 hn6 hx h9
          go_wp2
          go_roundg (ks.length - (k + 1))
          case measure => omega
          case rel => exact H7.out
      · by_cases hpl : k < ps.length
        · by_cases hpn : 0 < ps[k].length
          · obtain ⟨bp, op, au, cu, rfl, cp, rp⟩ := (H2.out.new Hnw.out).at hpl
            have hjl := joined_take_le ps (k + 1)
            have hjs := joined_take_succ ps k _ (List.getElem?_eq_getElem hpl)
            obtain ⟨p, hpp⟩ : ∃ p, p = ps[k] := ⟨_, rfl⟩
            rw [← hpp] at cp rp hjs hpn
            have hpb : p.length ≤ 140737488355328 := by rw [hjs] at hjl; simp at hjl; omega
            have Hpp : Hid (ps.getD k [] = p) := by show _ = _; rw [hpp]; simp [hpl]
            have Hrp := Lib.hid rp
            have hpl' : (k : Int) < ps.length := by omega
            clear hjl hjs hpp
            obtain ⟨b0, o0, rfl, q0⟩ := bytes_one rp (i := 0) hpn
            have c0 := q0 0 hpn
            obtain ⟨u0, hu0⟩ : ∃ u0 : UInt8, u0 = p[0] := ⟨_, rfl⟩
            rw [← hu0, Nat.add_zero] at c0
            have Hu0 : Hid (p.headD 0 = u0) := by
              show _ = _
              rw [hu0]
              cases p with
              | nil => simp at hpn
              | cons x r => rfl
            have b0' := u0.toNat_lt
            have hpn' : ¬ ((p.length : Int) ≤ 0) := by omega
            clear q0 hu0
            clear rp
            have hrl' : ¬ ((k : Int) < rs.length) := by omega
            have Hrn : Hid (0 = rs.getD k 0) := by show _ = _; rw [List.getD_eq_getElem?_getD, List.getElem?_eq_none (by omega)]; rfl
            have hna : New wr (wr.alloc (.cells #[.int .i64 kd, .int .i64 0, .int .u8 0, .slice none 0 0] 44)) := (Keep.refl _ _).alloc _
            have HNA := Lib.hid hna
            have cpA := New.cellAt hna cp
            have hbnp : bp < wr.heap.size := World.block_lt_of_cell? wr _ cp
            have hnep : ¬ bp = wr.heap.size := by omega
            have hnep2 : ¬ wr.heap.size = bp := by omega
            have c0A := New.cellAt hna c0
            have hbn0 : b0 < wr.heap.size := World.block_lt_of_cell? wr _ c0
            have hne0 : ¬ b0 = wr.heap.size := by omega
            have hne02 : ¬ wr.heap.size = b0 := by omega
            have HRp : Hid (BytesAt (wr.alloc (.cells #[.int .i64 kd, .int .i64 0, .int .u8 0, .slice none 0 0] 44)) (.slice (some ⟨b0, o0, none⟩) p.length cu) p) := Hrp.out.new hna
            have Hpv := Lib.hid (bytesV_length p)
            have hHC : (wr.alloc (.cells #[.int .i64 kd, .int .i64 0, .int .u8 0, .slice none 0 0] 44)).heap[wr.heap.size]? = some (.cells #[.int .i64 kd, .int .i64 0, .int .u8 0, .slice none 0 0] 44 (0, 0)) := heap_alloc_new _ _
            have HHC := Lib.hid hHC
            clear hna hHC
            go_wp2_with (at_builtin; refine wpList_append_nil rfl _ _ 27 rfl wr.heap.size 5 i0 (.int .u8 0) 1 1 Tryd.underlying27 hi hz0 hz1 hz2 rfl (by decide) rfl (some ⟨b0, o0, none⟩) p.length cu (bytesV p) rfl (RowAt.parts HRp.out).2.2.1 (by first | (rw [Hpv.out]; done) | (rw [Hpv.out]; omega) | (simp [bytesV]; done)) (RowAt.parts HRp.out).2.2.2 (bytesV_one _) (by unfold maxLen; omega) (by omega) (by simp) ?_)
            intro a5 c5 w5 ho5 hn5 hb5
            have h65 := (hn5.block _ (Array.getElem?_eq_some_iff.1 HHC.out).1 (fun f => f)).trans HHC.out
            have x0 := cell_of (o := 0) h65 rfl
            have x1 := cell_of (o := 1) h65 rfl
            have x2 := cell_of (o := 2) h65 rfl
            have x3 := cell_of (o := 3) h65 rfl
            have y0 := frozen_of (o := 0) h65
            have y1 := frozen_of (o := 1) h65
            have y2 := frozen_of (o := 2) h65
            have y3 := frozen_of (o := 3) h65
            have cp5 := New.cellAt hn5 cpA
            have c05 := New.cellAt hn5 c0A
            have Hn5 := Lib.hid (HNA.out.then hn5)
            have hw5z := (HNA.out.then hn5).size
            have Ho5 : Hid (BytesAt w5 (.slice a5 p.length c5) p) := ownsRow_rowAt ho5
            have Hap5 : Hid (∀ i, Value.inBlock (.slice a5 p.length c5) i → wr.heap.size ≤ i ∧ i ≠ wr.heap.size) := fun i hi => by
              have h7 := hb5 i (inBlock_own hi)
              first | omega | (simp at h7; omega)
            clear h65 ho5 hn5 hb5
            have hW : New wr ((w5.setCell ⟨wr.heap.size, 3, none⟩ (.slice a5 p.length c5)).setCell ⟨wr.heap.size, 2, none⟩ (.int .u8 (u0.toNat : Int))) := ((Hn5.out).setCell (p := ⟨wr.heap.size, 3, none⟩) (.inr (Nat.le_refl _)) _).setCell (p := ⟨wr.heap.size, 2, none⟩) (.inr (Nat.le_refl _)) _
            have hBW : BytesAt ((w5.setCell ⟨wr.heap.size, 3, none⟩ (.slice a5 p.length c5)).setCell ⟨wr.heap.size, 2, none⟩ (.int .u8 (u0.toNat : Int))) (.slice a5 p.length c5) p := RowAt.keep (S := fun i => i = wr.heap.size) Ho5.out (((Keep.refl _ _).set1 3 _).set1 2 _) (fun i hi e => (Hap5.out i hi).2 e)
            have HW := Lib.hid hW
            have HBW := Lib.hid hBW
            have HAW : Hid (∀ i, Value.inBlock (.slice a5 p.length c5) i → wr.heap.size ≤ i) := fun i hi => (Hap5.out i hi).1
            have hk40 : k ≤ 1099511627776 := by omega
            have hwsz := hW.size
            have HX5 : Hid ((((w5.setCell ⟨wr.heap.size, 3, none⟩ (.slice a5 p.length c5)).setCell ⟨wr.heap.size, 2, none⟩ (.int .u8 (u0.toNat : Int))).alloc (.cells #[.int .i64 kd, .int .i64 (0), .int .u8 ((u0.toNat : Int)), .slice a5 p.length c5] 44)).ownsRow w.heap.size 44 4 (.slice ao k co) k (callsV ((writesR ks ps rs).take k) bvs)) := by
              have h8 := ownsRow_keep Hco.out.own hW (fun _ _ f => f)
              rw [Htl.out] at h8
              exact h8.alloc _
            have HE0 : Hid (∀ ad', some (⟨w5.heap.size, 0, none⟩ : Addr) = some ad' → CellsAt (((w5.setCell ⟨wr.heap.size, 3, none⟩ (.slice a5 p.length c5)).setCell ⟨wr.heap.size, 2, none⟩ (.int .u8 (u0.toNat : Int))).alloc (.cells #[.int .i64 kd, .int .i64 (0), .int .u8 ((u0.toNat : Int)), .slice a5 p.length c5] 44)) ad' [.int .i64 kd, .int .i64 (0), .int .u8 ((u0.toNat : Int)), .slice a5 p.length c5]) := by
              intro ad' e' j u hu
              cases e'
              have h8 := cell_new ((w5.setCell ⟨wr.heap.size, 3, none⟩ (.slice a5 p.length c5)).setCell ⟨wr.heap.size, 2, none⟩ (.int .u8 (u0.toNat : Int))) #[.int .i64 kd, .int .i64 (0), .int .u8 ((u0.toNat : Int)), .slice a5 p.length c5] 44 j
              have hsz8 : ((w5.setCell ⟨wr.heap.size, 3, none⟩ (.slice a5 p.length c5)).setCell ⟨wr.heap.size, 2, none⟩ (.int .u8 (u0.toNat : Int))).heap.size = w5.heap.size := by simp
              rw [hsz8] at h8
              rw [addr_add, Nat.zero_add]
              exact h8.trans (by simpa using hu)
            have HE1 : Hid (∀ u ∈ [(.int .i64 kd : Value), .int .i64 (0), .int .u8 ((u0.toNat : Int)), .slice a5 p.length c5], u.oneCell' = true) := by
              intro u hu
              simp at hu
              rcases hu with rfl | rfl | rfl | rfl <;> rfl
            clear hW hBW
            go_wp2_with (at_builtin; refine wpList_append_row rfl _ _ 41 rfl w.heap.size 44 j0 (.agg #[.int .i64 0, .int .i64 0, .int .u8 0, .slice none 0 0]) 4 48 Tryd.underlying41 hj hy0 hy1 hy2 (by rfl) (by decide) _ k (callsV ((writesR ks ps rs).take k) bvs) rfl HX5.out (some ⟨w5.heap.size, 0, none⟩) 1 1 [.int .i64 kd, .int .i64 (0), .int .u8 ((u0.toNat : Int)), .slice a5 p.length c5] (by rfl) (by intro e; cases e) (by rfl) HE0.out HE1.out (by unfold maxLen; omega) (by omega) (by simp; omega) ?_)
            intro a7 c7 w7 ho7 hg7 hb7
            have hn6 : New ((w5.setCell ⟨wr.heap.size, 3, none⟩ (.slice a5 p.length c5)).setCell ⟨wr.heap.size, 2, none⟩ (.int .u8 (u0.toNat : Int))) (((w5.setCell ⟨wr.heap.size, 3, none⟩ (.slice a5 p.length c5)).setCell ⟨wr.heap.size, 2, none⟩ (.int .u8 (u0.toNat : Int))).alloc (.cells #[.int .i64 kd, .int .i64 (0), .int .u8 ((u0.toNat : Int)), .slice a5 p.length c5] 44)) := (Keep.refl _ _).alloc _
            have hx : writesAt ks ps rs k = ⟨kd, 0, u0, p⟩ := by
              unfold writesAt
              rw [← Hkd.out, ← Hrn.out, Hpp.out]
              rw [Hu0.out]
            have h9 : CallsOwn w7 w.heap.size (.slice a7 (k + 1) c7) ((writesR ks ps rs).take (k + 1)) (bvs ++ [.slice a5 p.length c5]) := by
              rw [Hwt.out, hx]
              refine Hco.out.snoc HW.out HBW.out HAW.out hn6 hg7 ?_ (fun i hi => ?_)
              · rw [Htl.out]; exact ho7
              · rcases hb7 i hi with h | h
                · exact .inl h
                · right; rw [h]; simp
            have H7 : Hid (WsInv w ks ps rs (ks.length - (k + 1)) (.slice a7 (k + 1) c7) (.int .i64 ((k : Int) + 1)) w7) := by
              refine ⟨k + 1, a7, c7, _, hlt, by rw [show (((k + 1 : Nat)) : Int) = (k : Int) + 1 by omega], rfl, h9, ?_, rfl⟩
              exact ((Hnw.out.then HW.out).then hn6).trans ((Keep.refl (fun i => (Value.slice ao k co).ownBlock = some i) _).grown hg7 (fun i hi => .inl hi)) (fun i hi e => by have := (Hco.out.own.lt i e).1; omega)
            clear ho7 hg7 hb7 hn6 hx h9
            go_wp2
            go_roundg (ks.length - (k + 1))
            case measure => omega
            case rel => exact H7.out
          · obtain ⟨bp, op, au, cu, rfl, cp, rp⟩ := (H2.out.new Hnw.out).at hpl
            have hjl := joined_take_le ps (k + 1)
            have hjs := joined_take_succ ps k _ (List.getElem?_eq_getElem hpl)
            obtain ⟨p, hpp⟩ : ∃ p, p = ps[k] := ⟨_, rfl⟩
            rw [← hpp] at cp rp hjs hpn
            have hpb : p.length ≤ 140737488355328 := by rw [hjs] at hjl; simp at hjl; omega
            have Hpp : Hid (ps.getD k [] = p) := by show _ = _; rw [hpp]; simp [hpl]
            have Hrp := Lib.hid rp
            have hpl' : (k : Int) < ps.length := by omega
            clear hjl hjs hpp
            obtain rfl : p = [] := List.eq_nil_of_length_eq_zero (by omega)
            rw [List.length_nil] at cp rp
            clear hpn
            clear rp
            have hrl' : ¬ ((k : Int) < rs.length) := by omega
            have Hrn : Hid (0 = rs.getD k 0) := by show _ = _; rw [List.getD_eq_getElem?_getD, List.getElem?_eq_none (by omega)]; rfl
            have hna : New wr (wr.alloc (.cells #[.int .i64 kd, .int .i64 0, .int .u8 0, .slice none 0 0] 44)) := (Keep.refl _ _).alloc _
            have HNA := Lib.hid hna
            have cpA := New.cellAt hna cp
            have hbnp : bp < wr.heap.size := World.block_lt_of_cell? wr _ cp
            have hnep : ¬ bp = wr.heap.size := by omega
            have hnep2 : ¬ wr.heap.size = bp := by omega
            have HRp : Hid (BytesAt (wr.alloc (.cells #[.int .i64 kd, .int .i64 0, .int .u8 0, .slice none 0 0] 44)) (.slice au 0 cu) ([] : List UInt8)) := Hrp.out.new hna
            have Hpv := Lib.hid (bytesV_length ([] : List UInt8))
            have hHC : (wr.alloc (.cells #[.int .i64 kd, .int .i64 0, .int .u8 0, .slice none 0 0] 44)).heap[wr.heap.size]? = some (.cells #[.int .i64 kd, .int .i64 0, .int .u8 0, .slice none 0 0] 44 (0, 0)) := heap_alloc_new _ _
            have HHC := Lib.hid hHC
            clear hna hHC
            go_wp2_with (at_builtin; refine wpList_append_nil rfl _ _ 27 rfl wr.heap.size 5 i0 (.int .u8 0) 1 1 Tryd.underlying27 hi hz0 hz1 hz2 rfl (by decide) rfl (au) 0 cu (bytesV ([] : List UInt8)) rfl (RowAt.parts HRp.out).2.2.1 (by first | (rw [Hpv.out]; done) | (rw [Hpv.out]; omega) | (simp [bytesV]; done)) (RowAt.parts HRp.out).2.2.2 (bytesV_one _) (by unfold maxLen; omega) (by omega) (by simp) ?_)
            intro a5 c5 w5 ho5 hn5 hb5
            have h65 := (hn5.block _ (Array.getElem?_eq_some_iff.1 HHC.out).1 (fun f => f)).trans HHC.out
            have x0 := cell_of (o := 0) h65 rfl
            have x1 := cell_of (o := 1) h65 rfl
            have x2 := cell_of (o := 2) h65 rfl
            have x3 := cell_of (o := 3) h65 rfl
            have y0 := frozen_of (o := 0) h65
            have y1 := frozen_of (o := 1) h65
            have y2 := frozen_of (o := 2) h65
            have y3 := frozen_of (o := 3) h65
            have cp5 := New.cellAt hn5 cpA
            have Hn5 := Lib.hid (HNA.out.then hn5)
            have hw5z := (HNA.out.then hn5).size
            have Ho5 : Hid (BytesAt w5 (.slice a5 0 c5) ([] : List UInt8)) := ownsRow_rowAt ho5
            have Hap5 : Hid (∀ i, Value.inBlock (.slice a5 0 c5) i → wr.heap.size ≤ i ∧ i ≠ wr.heap.size) := fun i hi => by
              have h7 := hb5 i (inBlock_own hi)
              first | omega | (simp at h7; omega)
            clear h65 ho5 hn5 hb5
            have hW : New wr (w5.setCell ⟨wr.heap.size, 3, none⟩ (.slice a5 0 c5)) := (Hn5.out).setCell (p := ⟨wr.heap.size, 3, none⟩) (.inr (Nat.le_refl _)) _
            have hBW : BytesAt (w5.setCell ⟨wr.heap.size, 3, none⟩ (.slice a5 0 c5)) (.slice a5 0 c5) ([] : List UInt8) := RowAt.keep (S := fun i => i = wr.heap.size) Ho5.out ((Keep.refl _ _).set1 3 _) (fun i hi e => (Hap5.out i hi).2 e)
            have HW := Lib.hid hW
            have HBW := Lib.hid hBW
            have HAW : Hid (∀ i, Value.inBlock (.slice a5 0 c5) i → wr.heap.size ≤ i) := fun i hi => (Hap5.out i hi).1
            have hk40 : k ≤ 1099511627776 := by omega
            have hwsz := hW.size
            have HX5 : Hid (((w5.setCell ⟨wr.heap.size, 3, none⟩ (.slice a5 0 c5)).alloc (.cells #[.int .i64 kd, .int .i64 (0), .int .u8 (0), .slice a5 0 c5] 44)).ownsRow w.heap.size 44 4 (.slice ao k co) k (callsV ((writesR ks ps rs).take k) bvs)) := by
              have h8 := ownsRow_keep Hco.out.own hW (fun _ _ f => f)
              rw [Htl.out] at h8
              exact h8.alloc _
            have HE0 : Hid (∀ ad', some (⟨w5.heap.size, 0, none⟩ : Addr) = some ad' → CellsAt ((w5.setCell ⟨wr.heap.size, 3, none⟩ (.slice a5 0 c5)).alloc (.cells #[.int .i64 kd, .int .i64 (0), .int .u8 (0), .slice a5 0 c5] 44)) ad' [.int .i64 kd, .int .i64 (0), .int .u8 (0), .slice a5 0 c5]) := by
              intro ad' e' j u hu
              cases e'
              have h8 := cell_new (w5.setCell ⟨wr.heap.size, 3, none⟩ (.slice a5 0 c5)) #[.int .i64 kd, .int .i64 (0), .int .u8 (0), .slice a5 0 c5] 44 j
              have hsz8 : (w5.setCell ⟨wr.heap.size, 3, none⟩ (.slice a5 0 c5)).heap.size = w5.heap.size := by simp
              rw [hsz8] at h8
              rw [addr_add, Nat.zero_add]
              exact h8.trans (by simpa using hu)
            have HE1 : Hid (∀ u ∈ [(.int .i64 kd : Value), .int .i64 (0), .int .u8 (0), .slice a5 0 c5], u.oneCell' = true) := by
              intro u hu
              simp at hu
              rcases hu with rfl | rfl | rfl | rfl <;> rfl
            clear hW hBW
            go_wp2_with (at_builtin; refine wpList_append_row rfl _ _ 41 rfl w.heap.size 44 j0 (.agg #[.int .i64 0, .int .i64 0, .int .u8 0, .slice none 0 0]) 4 48 Tryd.underlying41 hj hy0 hy1 hy2 (by rfl) (by decide) _ k (callsV ((writesR ks ps rs).take k) bvs) rfl HX5.out (some ⟨w5.heap.size, 0, none⟩) 1 1 [.int .i64 kd, .int .i64 (0), .int .u8 (0), .slice a5 0 c5] (by rfl) (by intro e; cases e) (by rfl) HE0.out HE1.out (by unfold maxLen; omega) (by omega) (by simp; omega) ?_)
            intro a7 c7 w7 ho7 hg7 hb7
            have hn6 : New (w5.setCell ⟨wr.heap.size, 3, none⟩ (.slice a5 0 c5)) ((w5.setCell ⟨wr.heap.size, 3, none⟩ (.slice a5 0 c5)).alloc (.cells #[.int .i64 kd, .int .i64 (0), .int .u8 (0), .slice a5 0 c5] 44)) := (Keep.refl _ _).alloc _
            have hx : writesAt ks ps rs k = ⟨kd, 0, 0, ([] : List UInt8)⟩ := by
              unfold writesAt
              rw [← Hkd.out, ← Hrn.out, Hpp.out]
              rfl
            have h9 : CallsOwn w7 w.heap.size (.slice a7 (k + 1) c7) ((writesR ks ps rs).take (k + 1)) (bvs ++ [.slice a5 0 c5]) := by
              rw [Hwt.out, hx]
              refine Hco.out.snoc HW.out HBW.out HAW.out hn6 hg7 ?_ (fun i hi => ?_)
              · rw [Htl.out]; exact ho7
              · rcases hb7 i hi with h | h
                · exact .inl h
                · right; rw [h]; simp
            have H7 : Hid (WsInv w ks ps rs (ks.length - (k + 1)) (.slice a7 (k + 1) c7) (.int .i64 ((k : Int) + 1)) w7) := by
              refine ⟨k + 1, a7, c7, _, hlt, by rw [show (((k + 1 : Nat)) : Int) = (k : Int) + 1 by omega], rfl, h9, ?_, rfl⟩
              exact ((Hnw.out.then HW.out).then hn6).trans ((Keep.refl (fun i => (Value.slice ao k co).ownBlock = some i) _).grown hg7 (fun i hi => .inl hi)) (fun i hi e => by have := (Hco.out.own.lt i e).1; omega)
            clear ho7 hg7 hb7 hn6 hx h9
            go_wp2
            go_roundg (ks.length - (k + 1))
            case measure => omega
            case rel => exact H7.out
        · have hpl' : ¬ ((k : Int) < ps.length) := by omega
          have Hpp : Hid (ps.getD k [] = []) := by show _ = _; rw [List.getD_eq_getElem?_getD, List.getElem?_eq_none (by omega)]; rfl
          have hrl' : ¬ ((k : Int) < rs.length) := by omega
          have Hrn : Hid (0 = rs.getD k 0) := by show _ = _; rw [List.getD_eq_getElem?_getD, List.getElem?_eq_none (by omega)]; rfl
          have hna : New wr (wr.alloc (.cells #[.int .i64 kd, .int .i64 0, .int .u8 0, .slice none 0 0] 44)) := (Keep.refl _ _).alloc _
          have HNA := Lib.hid hna
          clear hna
          have hW : New wr (wr.alloc (.cells #[.int .i64 kd, .int .i64 0, .int .u8 0, .slice none 0 0] 44)) := (Keep.refl _ _).alloc _
          have hBW : BytesAt (wr.alloc (.cells #[.int .i64 kd, .int .i64 0, .int .u8 0, .slice none 0 0] 44)) (.slice none 0 0) [] := ⟨none, 0, rfl, by simp [bytesV], by unfold maxLen; omega, fun _ => rfl, fun ad e => by cases e⟩
          have HW := Lib.hid hW
          have HBW := Lib.hid hBW
          have HAW : Hid (∀ i, Value.inBlock (.slice none 0 0) i → wr.heap.size ≤ i) := fun i hi => by obtain ⟨_, _, _, e, _⟩ := hi; simp at e
          have hk40 : k ≤ 1099511627776 := by omega
          have hwsz := hW.size
          have HX5 : Hid (((wr.alloc (.cells #[.int .i64 kd, .int .i64 0, .int .u8 0, .slice none 0 0] 44)).alloc (.cells #[.int .i64 kd, .int .i64 (0), .int .u8 (0), .slice none 0 0] 44)).ownsRow w.heap.size 44 4 (.slice ao k co) k (callsV ((writesR ks ps rs).take k) bvs)) := by
            have h8 := ownsRow_keep Hco.out.own hW (fun _ _ f => f)
            rw [Htl.out] at h8
            exact h8.alloc _
          have HE0 : Hid (∀ ad', some (⟨wr.heap.size + 1, 0, none⟩ : Addr) = some ad' → CellsAt ((wr.alloc (.cells #[.int .i64 kd, .int .i64 0, .int .u8 0, .slice none 0 0] 44)).alloc (.cells #[.int .i64 kd, .int .i64 (0), .int .u8 (0), .slice none 0 0] 44)) ad' [.int .i64 kd, .int .i64 (0), .int .u8 (0), .slice none 0 0]) := by
            intro ad' e' j u hu
            cases e'
            have h8 := cell_new (wr.alloc (.cells #[.int .i64 kd, .int .i64 0, .int .u8 0, .slice none 0 0] 44)) #[.int .i64 kd, .int .i64 (0), .int .u8 (0), .slice none 0 0] 44 j
            have hsz8 : (wr.alloc (.cells #[.int .i64 kd, .int .i64 0, .int .u8 0, .slice none 0 0] 44)).heap.size = wr.heap.size + 1 := by simp
            rw [hsz8] at h8
            rw [addr_add, Nat.zero_add]
            exact h8.trans (by simpa using hu)
          have HE1 : Hid (∀ u ∈ [(.int .i64 kd : Value), .int .i64 (0), .int .u8 (0), .slice none 0 0], u.oneCell' = true) := by
            intro u hu
            simp at hu
            rcases hu with rfl | rfl | rfl | rfl <;> rfl
          clear hW hBW
          go_wp2_with (at_builtin; refine wpList_append_row rfl _ _ 41 rfl w.heap.size 44 j0 (.agg #[.int .i64 0, .int .i64 0, .int .u8 0, .slice none 0 0]) 4 48 Tryd.underlying41 hj hy0 hy1 hy2 (by rfl) (by decide) _ k (callsV ((writesR ks ps rs).take k) bvs) rfl HX5.out (some ⟨wr.heap.size + 1, 0, none⟩) 1 1 [.int .i64 kd, .int .i64 (0), .int .u8 (0), .slice none 0 0] (by rfl) (by intro e; cases e) (by rfl) HE0.out HE1.out (by unfold maxLen; omega) (by omega) (by simp; omega) ?_)
          intro a7 c7 w7 ho7 hg7 hb7
          have hn6 : New (wr.alloc (.cells #[.int .i64 kd, .int .i64 0, .int .u8 0, .slice none 0 0] 44)) ((wr.alloc (.cells #[.int .i64 kd, .int .i64 0, .int .u8 0, .slice none 0 0] 44)).alloc (.cells #[.int .i64 kd, .int .i64 (0), .int .u8 (0), .slice none 0 0] 44)) := (Keep.refl _ _).alloc _
          have hx : writesAt ks ps rs k = ⟨kd, 0, 0, []⟩ := by
            unfold writesAt
            rw [← Hkd.out, ← Hrn.out, Hpp.out]
            rfl
          have h9 : CallsOwn w7 w.heap.size (.slice a7 (k + 1) c7) ((writesR ks ps rs).take (k + 1)) (bvs ++ [.slice none 0 0]) := by
            rw [Hwt.out, hx]
            refine Hco.out.snoc HW.out HBW.out HAW.out hn6 hg7 ?_ (fun i hi => ?_)
            · rw [Htl.out]; exact ho7
            · rcases hb7 i hi with h | h
              · exact .inl h
              · right; rw [h]; simp
          have H7 : Hid (WsInv w ks ps rs (ks.length - (k + 1)) (.slice a7 (k + 1) c7) (.int .i64 ((k : Int) + 1)) w7) := by
            refine ⟨k + 1, a7, c7, _, hlt, by rw [show (((k + 1 : Nat)) : Int) = (k : Int) + 1 by omega], rfl, h9, ?_, rfl⟩
            exact ((Hnw.out.then HW.out).then hn6).trans ((Keep.refl (fun i => (Value.slice ao k co).ownBlock = some i) _).grown hg7 (fun i hi => .inl hi)) (fun i hi e => by have := (Hco.out.own.lt i e).1; omega)
          clear ho7 hg7 hb7 hn6 hx h9
          go_wp2
          go_roundg (ks.length - (k + 1))
          case measure => omega
          case rel => exact H7.out
    · obtain rfl : k = ks.length := by omega
      have hnl : ¬ ((ks.length : Int) < ks.length) := by omega
      rw [List.take_of_length_le (by rw [writesR_length]; exact Nat.le_refl _)] at hco
      have Hco := Lib.hid hco
      clear hco htl
      go_wp2
      go_ret
      first | exact ⟨ao, co, bvs, rfl, Hco.out, hnw⟩ | exact ⟨ao, co, rfl, ⟨bvs, Hco.out⟩, hnw⟩ | exact ⟨ao, co, rfl, bvs, Hco.out, hnw⟩
end Go.Proofs.YtjihbkmbbcdnfaaDoor
