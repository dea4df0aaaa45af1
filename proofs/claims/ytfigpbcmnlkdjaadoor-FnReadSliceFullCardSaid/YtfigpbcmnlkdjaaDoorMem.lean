/-
  Laws about memory of no program: copy into a row, cuts of slices, bytes in a block.
-/
import Derived.Test.YtfigpbcmnlkdjaaDoorBase
import Derived.Laws.CopyOwn
import Derived.Lib.BufferWrite
namespace Go.Proofs.YtfigpbcmnlkdjaaDoor
open Go.RowKit

theorem Keep.setRow {S : Nat → Prop} {a w : World} (h : Keep S a w) {g : Nat} (hp : S g ∨ a.heap.size ≤ g) (cs : Array Value) : Keep S a (w.setRow g cs) :=
  ⟨h.os, h.tape, h.output, by have := h.size; simp [World.setRow]; omega, fun k hk hs =>
    (setRow_other w g k cs (fun e => by subst e; rcases hp with hp | hp; exact hs hp; omega)).trans (h.block k hk hs)⟩

section
variable {P : Program} {w : World}

/-- copy into a row that is known whole, from a slice of whatever make. -/
theorem run_copy_any (dT sT ty elem : TypeId) (hu : P.underlying dT = some (.slice elem)) (hsz : (P.info? elem).map (·.size) = some 1)
    (dp sp : Option Addr) (dLen dCap sLen sCap : Nat) (g off : Nat) (cur : List Value) (t : TypeId) (hg : w.heap[g]? = some (.cells cur.toArray t (0, 0)))
    (cs : List Value) (hn : cs.length = Nat.min sLen dLen) (hd : 0 < cs.length → dp = some ⟨g, off, none⟩) (hsrc : 0 < cs.length → ∃ ad, sp = some ad ∧ CellsAt w ad cs)
    (hfit : off + cs.length ≤ cur.length) (h1 : ∀ v ∈ cs, v.oneCell' = true) :
    ∃ w', (Builtin.copy_ #[dT, sT] ty #[.slice dp dLen dCap, .slice sp sLen sCap]).run P w = .ok (goInt cs.length) w' ∧
      w'.heap[g]? = some (.cells (splice cur off cs).toArray t (0, 0)) ∧ Keep (fun k => k = g) w w' := by
  by_cases h0 : cs.length = 0
  · obtain rfl : cs = [] := List.eq_nil_of_length_eq_zero h0
    exact ⟨w, run_copy_none (P := P) w dT sT ty elem dp sp dLen dCap sLen sCap hu hsz (by simpa using hn.symm), by simpa [splice] using hg, Keep.refl _ _⟩
  · obtain ⟨ad, rfl, hs⟩ := hsrc (by omega)
    obtain rfl := hd (by omega)
    have hrun := run_copy_row (P := P) w dT sT ty elem g off dLen dCap ad sLen sCap cur.toArray t cs hu hsz hg hn hs (by simpa using hfit) h1
    refine ⟨_, hrun, ?_, Keep.setRow (S := fun k => k = g) (Keep.refl _ w) (.inl rfl) _⟩
    rw [setRow_heap w g _ _ t _ hg]
    simp [splice]

theorem wp_copy_any {o : Oper} {a : Act} {K : Act → World → Prop} {Q : Exit → Act → World → Prop} (d s : Operand) (dT sT : TypeId)
    (ho : o.op = .call { callee := .builtin .copy, args := #[d, s], argTypes := #[dT, sT] }) (elem : TypeId) (hu : P.underlying dT = some (.slice elem)) (hsz : (P.info? elem).map (·.size) = some 1)
    (dp sp : Option Addr) (dLen dCap sLen sCap : Nat) (hd0 : a.eval d = .slice dp dLen dCap) (hs0 : a.eval s = .slice sp sLen sCap)
    (g off : Nat) (cur : List Value) (t : TypeId) (hg : w.heap[g]? = some (.cells cur.toArray t (0, 0)))
    (cs : List Value) (m : Nat) (hm : cs.length = m) (hn : cs.length = Nat.min sLen dLen) (hd : 0 < cs.length → dp = some ⟨g, off, none⟩) (hsrc : 0 < cs.length → ∃ ad, sp = some ad ∧ CellsAt w ad cs)
    (hfit : off + cs.length ≤ cur.length) (h1 : ∀ v ∈ cs, v.oneCell' = true)
    (h : ∀ w', Hid (w'.heap[g]? = some (.cells (splice cur off cs).toArray t (0, 0))) → Keep (fun k => k = g) w w' → K (a.put o.dst (goInt m)) w') : o.wp P a w K Q := by
  obtain ⟨w', hrun, h2, h3⟩ := run_copy_any (P := P) dT sT o.type elem hu hsz dp sp dLen dCap sLen sCap g off cur t hg cs hn hd hsrc hfit h1
  unfold Oper.wp
  simp [execOp, ho, resolve, invoke, builtin, hd0, hs0, hrun, Result.andThen]
  rw [hm]
  exact h w' h2 h3

theorem wpList_copy_any {ops : Array Oper} {rest : List Oper} {o : Oper} {a : Act} {Q : Exit → Act → World → Prop} (hgd : o.guard = none) (d s : Operand) (dT sT : TypeId)
    (ho : o.op = .call { callee := .builtin .copy, args := #[d, s], argTypes := #[dT, sT] }) (elem : TypeId) (hu : P.underlying dT = some (.slice elem)) (hsz : (P.info? elem).map (·.size) = some 1)
    (dp sp : Option Addr) (dLen dCap sLen sCap : Nat) (hd0 : a.eval d = .slice dp dLen dCap) (hs0 : a.eval s = .slice sp sLen sCap)
    (g off : Nat) (cur : List Value) (t : TypeId) (hg : w.heap[g]? = some (.cells cur.toArray t (0, 0)))
    (cs : List Value) (m : Nat) (hm : cs.length = m) (hn : cs.length = Nat.min sLen dLen) (hd : 0 < cs.length → dp = some ⟨g, off, none⟩) (hsrc : 0 < cs.length → ∃ ad, sp = some ad ∧ CellsAt w ad cs)
    (hfit : off + cs.length ≤ cur.length) (h1 : ∀ v ∈ cs, v.oneCell' = true)
    (h : ∀ w', Hid (w'.heap[g]? = some (.cells (splice cur off cs).toArray t (0, 0))) → Keep (fun k => k = g) w w' → wpList P ops Q rest (a.put o.dst (goInt m)) w') : wpList P ops Q (o :: rest) a w :=
  wpList_plain hgd fun _ hK => wp_copy_any d s dT sT ho elem hu hsz dp sp dLen dCap sLen sCap hd0 hs0 g off cur t hg cs m hm hn hd hsrc hfit h1 fun w' h2 h3 => hK _ _ (h w' h2 h3)

theorem step_copy_any {ops : Array Oper} {o : Oper} {a : Act} {K : Act → World → Prop} {Q : Exit → Act → World → Prop} {E : Prop} (hgd : o.guard = none) (d s : Operand) (dT sT : TypeId)
    (ho : o.op = .call { callee := .builtin .copy, args := #[d, s], argTypes := #[dT, sT] }) (elem : TypeId) (hu : P.underlying dT = some (.slice elem)) (hsz : (P.info? elem).map (·.size) = some 1)
    (dp sp : Option Addr) (dLen dCap sLen sCap : Nat) (hd0 : a.eval d = .slice dp dLen dCap) (hs0 : a.eval s = .slice sp sLen sCap)
    (g off : Nat) (cur : List Value) (t : TypeId) (hg : w.heap[g]? = some (.cells cur.toArray t (0, 0)))
    (cs : List Value) (m : Nat) (hm : cs.length = m) (hn : cs.length = Nat.min sLen dLen) (hd : 0 < cs.length → dp = some ⟨g, off, none⟩) (hsrc : 0 < cs.length → ∃ ad, sp = some ad ∧ CellsAt w ad cs)
    (hfit : off + cs.length ≤ cur.length) (h1 : ∀ v ∈ cs, v.oneCell' = true)
    (h : ∀ w', Hid (w'.heap[g]? = some (.cells (splice cur off cs).toArray t (0, 0))) → Keep (fun k => k = g) w w' → K (a.put o.dst (goInt m)) w') :
    if Region.wanted o (yielded ops a.tmps) = true then Oper.wp P o a w K Q else E := by
  have hw : Region.wanted o (yielded ops a.tmps) = true := by simp [Region.wanted, hgd]
  rw [if_pos hw]
  exact wp_copy_any d s dT sT ho elem hu hsz dp sp dLen dCap sLen sCap hd0 hs0 g off cur t hg cs m hm hn hd hsrc hfit h1 h

/-- A cut of a slice, one cell an element: the address under one name. -/
theorem slice_cut (t e : TypeId) (ht : P.underlying t = some (.slice e)) (hsz : (P.info? e).map (·.size) = some 1) (a : Option Addr) (n c lo hi : Nat) (h1 : lo ≤ hi) (h2 : hi ≤ c) (k1 k2 : IntKind) :
    ∃ a', (∀ w, (Instr.slice t (.slice a n c) (some (.int k1 lo)) (some (.int k2 hi)) none).run P w = .ok (.slice a' (hi - lo) (c - lo)) w) ∧ (lo < c → a' = a.map (·.add lo)) ∧ (a' = none ↔ a = none) := by
  obtain ⟨i, hi', hs⟩ := Option.map_eq_some_iff.1 hsz
  refine ⟨if c = lo then a else a.map (·.add (lo * 1)), fun w => ?_, fun h => by rw [if_neg (by omega), Nat.mul_one], ?_⟩
  · simp [Instr.slice, run_underlying ht, Instr.sliceBounds, Instr.sliceBound, asIntOf, sizeOf, typeInfo, hi', hs, h1, h2]
  · split
    · rfl
    · simp

theorem slice_from (t e : TypeId) (ht : P.underlying t = some (.slice e)) (hsz : (P.info? e).map (·.size) = some 1) (a : Option Addr) (n c lo : Nat) (h1 : lo ≤ n) (_h2 : n ≤ c) (k1 : IntKind) :
    ∃ a', (∀ w, (Instr.slice t (.slice a n c) (some (.int k1 lo)) none none).run P w = .ok (.slice a' (n - lo) (c - lo)) w) ∧ (lo < c → a' = a.map (·.add lo)) ∧ (a' = none ↔ a = none) := by
  obtain ⟨i, hi', hs⟩ := Option.map_eq_some_iff.1 hsz
  refine ⟨if c = lo then a else a.map (·.add (lo * 1)), fun w => ?_, fun h => by rw [if_neg (by omega), Nat.mul_one], ?_⟩
  · simp [Instr.slice, run_underlying ht, Instr.sliceBounds, Instr.sliceBound, asIntOf, sizeOf, typeInfo, hi', hs, h1]
  · split
    · rfl
    · simp

theorem slice_upto (t e : TypeId) (ht : P.underlying t = some (.slice e)) (hsz : (P.info? e).map (·.size) = some 1) (a : Option Addr) (n c hi : Nat) (h2 : hi ≤ c) (k2 : IntKind) :
    ∀ w, (Instr.slice t (.slice a n c) none (some (.int k2 hi)) none).run P w = .ok (.slice a hi c) w := by
  obtain ⟨i, hi', hs⟩ := Option.map_eq_some_iff.1 hsz
  intro w
  simp [Instr.slice, run_underlying ht, Instr.sliceBounds, Instr.sliceBound, asIntOf, sizeOf, typeInfo, hi', h2]
  intro _
  cases a <;> simp [Addr.add]
end

/-- What a cut of a row reads as. -/
theorem RowAt.cut {w : World} {a a' : Option Addr} {n c : Nat} {vs : List Value} (h : RowAt w (.slice a n c) vs) {lo hi : Nat} (h1 : lo ≤ hi) (h2 : hi ≤ vs.length) (ha : lo < c → a' = a.map (·.add lo)) (hn : a' = none ↔ a = none) :
    RowAt w (.slice a' (hi - lo) (c - lo)) ((vs.drop lo).take (hi - lo)) := by
  obtain ⟨a0, c0, e, g1, g2, g3, g4⟩ := h
  simp only [Value.slice.injEq] at e
  obtain ⟨rfl, rfl, rfl⟩ := e
  have hl : ((vs.drop lo).take (hi - lo)).length = hi - lo := by simp; omega
  refine ⟨a', c - lo, by rw [hl], by rw [hl]; omega, by omega, fun e => by have := g3 (hn.1 e); omega, fun ad e j u hu => ?_⟩
  have hj : j < hi - lo := by
    rcases Nat.lt_or_ge j (hi - lo) with h | h
    · exact h
    · rw [List.getElem?_eq_none (by omega)] at hu; cases hu
  have hlt : lo < c := by omega
  rw [ha hlt] at e
  cases a with
  | none => cases e
  | some x =>
    simp only [Option.map_some, Option.some.injEq] at e
    have hu' : vs[lo + j]? = some u := by
      rw [List.getElem?_take, if_pos hj, List.getElem?_drop] at hu
      exact hu
    have := g4 x rfl (lo + j) u hu'
    rw [← e]
    have ee : (x.add lo).add j = x.add (lo + j) := by
      unfold Addr.add
      by_cases h0 : lo = 0
      · subst h0; simp
      · by_cases h3 : j = 0
        · subst h3; simp [h0]
        · simp [h0, h3]; omega
    rw [ee]
    exact this

theorem RowAt.upto {w : World} {a : Option Addr} {n c : Nat} {vs : List Value} (h : RowAt w (.slice a n c) vs) {k : Nat} (hk : k ≤ vs.length) : RowAt w (.slice a k c) (vs.take k) := by
  obtain ⟨a0, c0, e, g1, g2, g3, g4⟩ := h
  simp only [Value.slice.injEq] at e
  obtain ⟨rfl, rfl, rfl⟩ := e
  have hl : (vs.take k).length = k := by simp; omega
  refine ⟨a, c, by rw [hl], by rw [hl]; omega, g2, g3, fun ad e j u hu => g4 ad e j u ?_⟩
  rw [List.getElem?_take] at hu
  split at hu
  · exact hu
  · cases hu

theorem RowAt.parts {w : World} {a : Option Addr} {n c : Nat} {vs : List Value} (h : RowAt w (.slice a n c) vs) : n = vs.length ∧ vs.length ≤ c ∧ (a = none → n = 0 ∧ c = 0) ∧ ∀ ad, a = some ad → CellsAt w ad vs := by
  obtain ⟨a0, c0, e, g1, g2, g3, g4⟩ := h
  simp only [Value.slice.injEq] at e
  obtain ⟨rfl, rfl, rfl⟩ := e
  exact ⟨rfl, g1, fun e => ⟨by have := g3 e; omega, g3 e⟩, g4⟩

theorem ownsRow_keep {S : Nat → Prop} {w w' : World} {base : Nat} {e : TypeId} {size : Nat} {v : Value} {n : Nat} {xs : List Value} (h : w.ownsRow base e size v n xs) (k : Keep S w w') (hS : ∀ i, v.ownBlock = some i → ¬ S i) : w'.ownsRow base e size v n xs := by
  refine ⟨h.1, ?_⟩
  rcases h.2 with hn | ⟨g, cap, cur, rfl, hb, hgg, rest⟩
  · exact .inl hn
  · refine .inr ⟨g, cap, cur, rfl, hb, ?_, rest⟩
    rw [k.block g (Array.getElem?_eq_some_iff.1 hgg).1 (hS g rfl)]
    exact hgg

theorem ownsRow_lower {w : World} {base base' : Nat} {e : TypeId} {size : Nat} {v : Value} {n : Nat} {xs : List Value} (h : w.ownsRow base e size v n xs) (hb : base' ≤ base) : w.ownsRow base' e size v n xs := by
  refine ⟨h.1, ?_⟩
  rcases h.2 with hn | ⟨g, cap, cur, rfl, hb', rest⟩
  · exact .inl hn
  · exact .inr ⟨g, cap, cur, rfl, by omega, rest⟩

/-- A block of bytes, part of it told. -/
theorem cells_of_block {w : World} {g : Nat} {cur : List Value} {t : TypeId} {f : Nat × Nat} (h : w.heap[g]? = some (.cells cur.toArray t f)) (o : Nat) (vs : List Value) (hv : (cur.drop o).take vs.length = vs) :
    CellsAt w ⟨g, o, none⟩ vs := by
  intro j u hu
  have hj : j < vs.length := by
    rcases Nat.lt_or_ge j vs.length with h | h
    · exact h
    · rw [List.getElem?_eq_none (by omega)] at hu; cases hu
  rw [← hv, List.getElem?_take, if_pos hj, List.getElem?_drop] at hu
  have : (⟨g, o, none⟩ : Addr).add j = ⟨g, o + j, none⟩ := by unfold Addr.add; split <;> simp_all
  rw [this]
  simp [World.cell?, h, hu]

theorem RowAt.one {w : World} {a : Option Addr} {n c : Nat} {vs : List Value} (h : RowAt w (.slice a n c) vs) {i : Nat} (hi : i < vs.length) :
    ∃ b o, a = some ⟨b, o, none⟩ ∧ ∀ (j : Nat) (hj : j < vs.length), w.cell? ⟨b, o + j, none⟩ = some vs[j] := by
  obtain ⟨a', c', e, h1, h2, h3, h4⟩ := h
  simp only [Value.slice.injEq] at e
  obtain ⟨rfl, rfl, rfl⟩ := e
  cases a with
  | none => have := h3 rfl; omega
  | some ad =>
    have h5 := h4 ad rfl
    have h6 := h5 0 (vs[0]'(by omega)) (by simp)
    obtain ⟨b, o, sp⟩ := ad
    have hspot : sp = none := by simpa [Addr.add] using World.cell?_spot h6
    subst hspot
    refine ⟨b, o, rfl, fun j hj => ?_⟩
    have h7 := h5 j vs[j] (by simp)
    unfold Addr.add at h7
    split at h7
    · subst_vars; simpa using h7
    · exact h7

theorem addr0_add (b n : Nat) : (⟨b, 0, none⟩ : Addr).add n = ⟨b, n, none⟩ := by unfold Addr.add; split <;> simp_all

theorem take_splice {cs Y : List Value} {n : Nat} (h : n + Y.length ≤ cs.length) : (splice cs n Y).take (n + Y.length) = cs.take n ++ Y := by
  have h1 : (cs.take n).length = n := by simp; omega
  unfold splice
  rw [List.take_append, h1, List.take_of_length_le (by omega), List.take_append]
  simp

end Go.Proofs.YtfigpbcmnlkdjaaDoor
