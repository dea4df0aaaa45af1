/-
  Rows of results, the walk of the laws' own source, and number at the end of a source.
-/
import Derived.Test.YtfigpbcmnlkdjaaDoorSlice0
import Derived.Test.YtfigpbcmnlkdjaaDoorEqual
namespace Go.Proofs.YtfigpbcmnlkdjaaDoor
open Go.RowKit

section
variable {P : Program} {w : World}
/-- append onto nil. -/
theorem wpList_append_nil0 {ops : Array Oper} {rest : List Oper} {o : Oper} {a : Act} {Q : Exit → Act → World → Prop} (hgd : o.guard = none) (s x : Operand) (t : TypeId)
    (ho : o.op = .call { callee := .builtin .append, args := #[s, x], argTypes := #[t, t] })
    (base : Nat) (e : TypeId) (i : TypeInfo) (z : Value) (size bytes : Nat) (ht : P.underlying t = some (.slice e)) (hi : P.info? e = some i) (hz : i.zero = some z)
    (hsize : i.size = size) (hby : i.bytes = bytes) (hzs : z.cells.size = size) (hsz : 0 < size)
    (hs : a.eval s = .slice none 0 0)
    (ao : Option Addr) (m c : Nat) (news : List Value) (hx : a.eval x = .slice ao m c) (hnone : ao = none → m = 0 ∧ c = 0) (hl : news.length = m * size) (hnews : ∀ ad, ao = some ad → CellsAt w ad news) (h1 : ∀ u ∈ news, u.oneCell' = true)
    (h63 : m ≤ maxLen) (hbytes : m * bytes ≤ 140737488355328) (hbase : base ≤ w.heap.size)
    (h : ∀ a' c' w', w'.ownsRow base e size (.slice a' m c') m news → New w w' → (∀ k, (Value.slice a' m c').ownBlock = some k → k = w.heap.size) → wpList P ops Q rest (a.put o.dst (.slice a' m c')) w') : wpList P ops Q (o :: rest) a w :=
  wpList_append_row hgd s x t ho base e i z size bytes ht hi hz hsize hby hzs hsz (.slice none 0 0) 0 [] hs (World.ownsRow_nil _ _ _ _) ao m c news hx hnone hl hnews h1 (by omega) (by rw [Nat.zero_add]; exact hbytes) hbase
    fun a' c' w' h2 h3 h4 => by
      rw [Nat.zero_add] at h2 h4 ⊢
      rw [List.nil_append] at h2
      exact h a' c' w' h2 (New.of_grown h3) (fun k hk => by
        rcases h4 k hk with h5 | h5
        · cases h5
        · exact h5)
end

theorem bytesAt_nil (w : World) : BytesAt w (.slice none 0 0) [] := ⟨none, 0, rfl, by simp [bytesV], by unfold maxLen; omega, fun _ => rfl, fun ad e => by cases e⟩
theorem intsAt_nil (w : World) : IntsAt w (.slice none 0 0) [] := ⟨none, 0, rfl, by simp [intsV], by unfold maxLen; omega, fun _ => rfl, fun ad e => by cases e⟩
theorem infoIntA : (Tryd.prog.info? 3).map (fun i => (i.zero, i.size, i.bytes)) = some (some (.int .i64 0), 1, 8) := by kernel_rfl
def outZ (bv : Value) (err : Int) : Array Value := #[bv, .int .i64 0, .int .i32 0, .bool false, .int .i64 err]
theorem infoOutR : (Tryd.prog.info? 33).map (fun i => (i.zero, i.size, i.bytes)) = some (some (.agg (outZ (.slice none 0 0) 0)), 5, 48) := by kernel_rfl

set_option maxHeartbeats 1000000 in
theorem source_any (w : World) (dv cv : Value) (E : Int) (wth : Bool) (data : List UInt8) (cuts : List Int) (hdv : BytesAt w dv data) (hcv : IntsAt w cv cuts) (hd : data.length ≤ 140737488355328) (hc : cuts.length * 8 ≤ 140737488355328) :
    Calls Tryd.prog 9 #[dv, cv, .int .i64 E, .bool wth] w fun e w' => ∃ dv' cv', e = .returned (.agg #[dv', cv', .int .i64 E, .bool wth]) ∧ BytesAt w' dv' data ∧ IntsAt w' cv' cuts ∧ New w w' := by
  obtain ⟨i0, hi, hz0, hz1, hz2⟩ := info_parts infoIntA
  obtain ⟨i1, hx, hx0, hx1, hx2⟩ := info_parts infoByte
  obtain ⟨a1, n1, rfl, -⟩ := id hdv
  obtain ⟨a2, n2, rfl, -⟩ := id hcv
  rw [bytesV_length] at hdv ⊢
  rw [intsV_length] at hcv ⊢
  have hna : New w (w.alloc (.cells #[.slice none 0 0, .slice none 0 0, .int .i64 0, .bool false] 30)) := (Keep.refl _ w).alloc _
  have HNA := Lib.hid hna
  have Hdv := Lib.hid (RowAt.parts (hdv.new hna))
  have Hcv := Lib.hid (hcv.new hna)
  have Hbl : Hid ((bytesV data).length = data.length * 1) := by show _ = _; rw [bytesV_length, Nat.mul_one]
  have Hil : Hid ((intsV cuts).length = cuts.length * 1) := by show _ = _; rw [intsV_length, Nat.mul_one]
  have hm1 : data.length ≤ maxLen := by unfold maxLen; omega
  have hm2 : cuts.length ≤ maxLen := by unfold maxLen; omega
  have hHC : (w.alloc (.cells #[.slice none 0 0, .slice none 0 0, .int .i64 0, .bool false] 30)).heap[w.heap.size]? = some (.cells #[.slice none 0 0, .slice none 0 0, .int .i64 0, .bool false] 30 (0, 0)) := heap_alloc_new _ _
  have HHC := Lib.hid hHC
  clear hdv hcv hna hHC
  go_enter Tryd.func9, Tryd.ntmps9
  go_wp2_with (at_builtin; refine wpList_append_nil0 rfl _ _ 23 rfl w.heap.size 5 i1 (.int .u8 0) 1 1 Tryd.underlying23 hx hx0 hx1 hx2 rfl (by decide) rfl a1 data.length n1 (bytesV data) rfl Hdv.out.2.2.1 Hbl.out Hdv.out.2.2.2 (bytesV_one _) hm1 (by omega) (by simp) ?_)
  intro a5 c5 w5 ho5 hn5 hb5
  have Hr5 : Hid (BytesAt w5 (.slice a5 data.length c5) data) := ownsRow_rowAt ho5
  have Hap5 : Hid (∀ i, Value.inBlock (.slice a5 data.length c5) i → i ≠ w.heap.size) := fun i hi => by
    have h7 := hb5 i (inBlock_own hi)
    first | omega | (simp at h7; omega)
  have HCv5 := Lib.hid (RowAt.parts (Hcv.out.new hn5))
  have Hn5 := Lib.hid hn5
  have hz5 := (HNA.out.then hn5).size
  have hz5' : w.heap.size + 1 ≤ w5.heap.size := by have := hn5.size; simp at this; omega
  clear ho5 hb5 hn5
  go_wp2_with (at_builtin; refine wpList_append_nil0 rfl _ _ 24 rfl w.heap.size 3 i0 (.int .i64 0) 1 8 Tryd.underlying24 hi hz0 hz1 hz2 rfl (by decide) rfl a2 cuts.length n2 (intsV cuts) rfl HCv5.out.2.2.1 Hil.out HCv5.out.2.2.2 (intsV_one _) hm2 (by omega) hz5 ?_)
  intro a6 c6 w6 ho6 hn6 hb6
  have Hr6 : Hid (IntsAt w6 (.slice a6 cuts.length c6) cuts) := ownsRow_rowAt ho6
  have Hap6 : Hid (∀ i, Value.inBlock (.slice a6 cuts.length c6) i → i ≠ w.heap.size) := fun i hi => by
    have h7 := hb6 i (inBlock_own hi)
    omega
  have Hr56 := Lib.hid (Hr5.out.new hn6)
  have hnA : New (w.alloc (.cells #[.slice none 0 0, .slice none 0 0, .int .i64 0, .bool false] 30)) w6 := Hn5.out.then hn6
  have h6 := (hnA.block w.heap.size (Array.getElem?_eq_some_iff.1 HHC.out).1 (fun f => f)).trans HHC.out
  have x0 := cell_of (o := 0) h6 rfl
  have x1 := cell_of (o := 1) h6 rfl
  have x2 := cell_of (o := 2) h6 rfl
  have x3 := cell_of (o := 3) h6 rfl
  have y0 := frozen_of (o := 0) h6
  have y1 := frozen_of (o := 1) h6
  have y2 := frozen_of (o := 2) h6
  have y3 := frozen_of (o := 3) h6
  have HN6 := Lib.hid (HNA.out.then hnA)
  clear ho6 hb6 hn6 hnA h6
  go_wp2
  refine bodyPost_ret (v := .agg #[.slice a5 data.length c5, .slice a6 cuts.length c6, .int .i64 E, .bool wth]) (by simp [results, Tryd.results9, go_sem, x0, x1, x2, x3]) rfl ?_
  have hk : Keep (fun i => i = w.heap.size) w6 ((((w6.setCell ⟨w.heap.size, 0, none⟩ (.slice a5 data.length c5)).setCell ⟨w.heap.size, 1, none⟩ (.slice a6 cuts.length c6)).setCell ⟨w.heap.size, 2, none⟩ (.int .i64 E)).setCell ⟨w.heap.size, 3, none⟩ (.bool wth)) := ((((Keep.refl _ w6).set1 0 _).set1 1 _).set1 2 _).set1 3 _
  exact ⟨_, _, rfl, RowAt.keep Hr56.out hk (fun i hi e => Hap5.out i hi e), RowAt.keep Hr6.out hk (fun i hi e => Hap6.out i hi e), HN6.out.trans hk (fun i hi e => by omega)⟩

/-- A result of a reader's call in a row: its bytes, its number, its rune, its error. -/
structure OutR where
  bv : Value
  n : Int
  rn : Int
  err : Int
def OutR.cells (o : OutR) : Array Value := #[o.bv, .int .i64 o.n, .int .i32 o.rn, .bool false, .int .i64 o.err]
def outsR : List OutR → List Value
  | [] => []
  | o :: r => o.cells.toList ++ outsR r
theorem outsR_length : ∀ os : List OutR, (outsR os).length = os.length * 5
  | [] => rfl
  | o :: r => by simp [outsR, outsR_length r, OutR.cells]; omega
theorem outsR_snoc : ∀ (os : List OutR) (o : OutR), outsR (os ++ [o]) = outsR os ++ o.cells.toList
  | [], o => by simp [outsR]
  | x :: r, o => by simp [outsR, outsR_snoc r o]
theorem outsR_get : ∀ (os : List OutR) (k : Nat) (o : OutR), os[k]? = some o → ∀ j, j < 5 → (outsR os)[k * 5 + j]? = o.cells[j]?
  | [], k, o, h => by simp at h
  | x :: r, 0, o, h => by
    intro j hj
    simp only [List.getElem?_cons_zero, Option.some.injEq] at h
    subst h
    rw [outsR, List.getElem?_append_left (by simp [OutR.cells]; omega)]
    simp
  | x :: r, k + 1, o, h => by
    intro j hj
    rw [outsR, List.getElem?_append_right (by simp [OutR.cells]; omega)]
    rw [show (k + 1) * 5 + j - x.cells.toList.length = k * 5 + j by simp [OutR.cells]; omega]
    exact outsR_get r k o (by simpa using h) j hj

/-- A result in a row. -/
theorem outsR_at {w : World} {base n : Nat} {v : Value} {os : List OutR} (h : w.ownsRow base 33 5 v n (outsR os)) (hn : os.length = n) {k : Nat} {o : OutR} (ho : os[k]? = some o) :
    ∃ g c, v = .slice (some ⟨g, 0, none⟩) n c ∧ n ≤ c ∧ (∀ j u, o.cells[j]? = some u → w.cell? ⟨g, k * 5 + j, none⟩ = some u) := by
  have hk : k < os.length := (List.getElem?_eq_some_iff.1 ho).1
  rcases h.2 with ⟨rfl, h0⟩ | ⟨g, cap, cur, rfl, hb, hg, h1, h2, h3, h4⟩
  · omega
  · refine ⟨g, cap, rfl, h1, fun j u hu => ?_⟩
    have hj : j < 5 := by have := (Array.getElem?_eq_some_iff.1 hu).1; simpa [OutR.cells] using this
    have h5 := outsR_get os k o ho j hj
    rw [hu, ← h4, List.getElem?_take] at h5
    split at h5
    · simp [World.cell?, hg]
      simpa using h5
    · cases h5

theorem OutR.one (o : OutR) (h : o.bv.oneCell' = true) : ∀ u ∈ o.cells.toList, u.oneCell' = true := by
  intro u hu
  simp [OutR.cells] at hu
  rcases hu with rfl | rfl | rfl | rfl | rfl
  · exact h
  all_goals rfl

theorem OutR.made (w : World) (o : OutR) : ∀ ad', some (⟨w.heap.size, 0, none⟩ : Addr) = some ad' → CellsAt (w.alloc (.cells o.cells 33)) ad' o.cells.toList := by
  intro ad' e' j u hu
  cases e'
  rw [addr0_add]
  exact (cell_new w o.cells 33 j).trans (by simpa using hu)

set_option maxHeartbeats 1000000 in
theorem number_eof (w : World) (B : Nat) (ad : Nat → Addr) (h : Errs w B ad) : Calls Tryd.prog 22 #[.iface 93 (.pointer (some (ad 0)))] w fun e w' => e = .returned (.int .i64 1) ∧ w = w' := by
  have c0 := h.e0.cell
  have q1 := eql_same w (ad 0)
  clear h
  go_enter Tryd.func22, Tryd.ntmps22
  go_wp2
  go_ret
  exact ⟨rfl, rfl⟩
end Go.Proofs.YtfigpbcmnlkdjaaDoor
