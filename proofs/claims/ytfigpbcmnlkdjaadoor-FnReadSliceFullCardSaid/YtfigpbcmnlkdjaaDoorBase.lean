/-
  Words about memory that all walks of this seat share: what a slice of bytes or of integers reads as, which blocks a call may have changed.
-/
import Derived.WalkKit
import Derived.WalkLawsBesides
import Derived.WalkSpells
import Derived.Deep.OwnRows
import Derived.Lib.Hide
import Derived.Deep.AppendLies
import Derived.Laws.AppendOwnNone
namespace Go.Proofs.YtfigpbcmnlkdjaaDoor
open Go.RowKit

/-- A byte as a value. -/
def byteV (x : UInt8) : Value := .int .u8 x.toNat
def bytesV (l : List UInt8) : List Value := l.map byteV
def intV (x : Int) : Value := .int .i64 x
def intsV (l : List Int) : List Value := l.map intV

theorem bytesV_length (l : List UInt8) : (bytesV l).length = l.length := by simp [bytesV]
theorem intsV_length (l : List Int) : (intsV l).length = l.length := by simp [intsV]
theorem bytesV_append (l m : List UInt8) : bytesV (l ++ m) = bytesV l ++ bytesV m := by simp [bytesV]
theorem bytesV_one (l : List UInt8) : ∀ u ∈ bytesV l, u.oneCell' = true := by
  intro u hu; simp [bytesV] at hu; obtain ⟨x, _, rfl⟩ := hu; rfl
theorem intsV_one (l : List Int) : ∀ u ∈ intsV l, u.oneCell' = true := by
  intro u hu; simp [intsV] at hu; obtain ⟨x, _, rfl⟩ := hu; rfl

/-- The world w' is the world w but for new blocks and for blocks of the set S. -/
structure Keep (S : Nat → Prop) (w w' : World) : Prop where
  os : w'.os = w.os
  tape : w'.tape = w.tape
  output : w'.output = w.output
  size : w.heap.size ≤ w'.heap.size
  block : ∀ k, k < w.heap.size → ¬ S k → w'.heap[k]? = w.heap[k]?

theorem Keep.refl (S : Nat → Prop) (w : World) : Keep S w w := ⟨rfl, rfl, rfl, Nat.le_refl _, fun _ _ _ => rfl⟩

theorem Keep.trans {S T : Nat → Prop} {a b c : World} (h : Keep S a b) (k : Keep T b c) (hT : ∀ i, i < a.heap.size → T i → S i) : Keep S a c :=
  ⟨k.os.trans h.os, k.tape.trans h.tape, k.output.trans h.output, Nat.le_trans h.size k.size, fun i hi hs =>
    (k.block i (Nat.lt_of_lt_of_le hi h.size) (fun ht => hs (hT i hi ht))).trans (h.block i hi hs)⟩

theorem Keep.mono {S T : Nat → Prop} {a b : World} (h : Keep S a b) (hT : ∀ i, i < a.heap.size → S i → T i) : Keep T a b :=
  ⟨h.os, h.tape, h.output, h.size, fun i hi hs => h.block i hi (fun hS => hs (hT i hi hS))⟩

theorem Keep.drew {S : Nat → Prop} {a w : World} (h : Keep S a w) : Keep S a w.drew := ⟨h.os, h.tape, h.output, h.size, h.block⟩
theorem Keep.drewN {S : Nat → Prop} {a w : World} (h : Keep S a w) (n : Nat) : Keep S a (w.drewN n) := ⟨h.os, h.tape, h.output, h.size, h.block⟩

theorem Keep.ofDrew {S : Nat → Prop} {w w' : World} (h : Keep S w.drew w') : Keep S w w' := ⟨h.os, h.tape, h.output, h.size, h.block⟩

theorem Keep.alloc {S : Nat → Prop} {a w : World} (h : Keep S a w) (o : Obj) : Keep S a (w.alloc o) :=
  ⟨h.os, h.tape, h.output, by have := h.size; simp; omega, fun k hk hs => (Below.heap_alloc _ _ _ (by have := h.size; omega)).trans (h.block k hk hs)⟩

theorem Keep.setCell {S : Nat → Prop} {a w : World} (h : Keep S a w) {p : Addr} (hp : S p.block ∨ a.heap.size ≤ p.block) (u : Value) : Keep S a (w.setCell p u) :=
  ⟨h.os, h.tape, h.output, by have := h.size; simp [World.setCell]; omega, fun k hk hs =>
    (Below.heap_setCell _ _ _ _ (fun e => by subst e; rcases hp with hp | hp; exact hs hp; omega)).trans (h.block k hk hs)⟩

theorem Keep.set1 {b : Nat} {a w : World} (h : Keep (fun k => k = b) a w) (o : Nat) (u : Value) : Keep (fun k => k = b) a (w.setCell ⟨b, o, none⟩ u) := h.setCell (.inl rfl) u

theorem heap_set {w : World} {b o : Nat} {cs : Array Value} {t : TypeId} {f : Nat × Nat} (h : w.heap[b]? = some (.cells cs t f)) (v : Value) :
    (w.setCell ⟨b, o, none⟩ v).heap[b]? = some (.cells (cs.setIfInBounds o v) t f) := by
  simp [World.setCell, Array.getElem?_modify, h]

theorem cell_of {w : World} {b o : Nat} {cs : Array Value} {t : TypeId} {f : Nat × Nat} {v : Value} (h : w.heap[b]? = some (.cells cs t f)) (hv : cs[o]? = some v) : w.cell? ⟨b, o, none⟩ = some v := by
  simp [World.cell?, h, hv]
theorem frozen_of {w : World} {b o : Nat} {cs : Array Value} {t : TypeId} (h : w.heap[b]? = some (.cells cs t (0, 0))) : w.frozen? ⟨b, o, none⟩ = false := by
  simp [World.frozen?, h]

theorem Keep.grown {S : Nat → Prop} {a w w' : World} {row : Option Nat} (h : Keep S a w) (hg : w.grownBy w' row) (hr : ∀ k, row = some k → S k ∨ a.heap.size ≤ k) : Keep S a w' :=
  ⟨hg.os.trans h.os, hg.tape.trans h.tape, hg.output.trans h.output, Nat.le_trans h.size hg.size, fun k hk hs =>
    (hg.block k (by have := h.size; omega) (fun e => by rcases hr k e.symm with h' | h'; exact hs h'; omega)).trans (h.block k hk hs)⟩

theorem Keep.below {S : Nat → Prop} {B : Nat} {w w' : World} (h : Keep S w w') (hB : B ≤ w.heap.size) (hS : ∀ k, k < B → ¬ S k) : Below B w w' :=
  ⟨h.os, h.tape, h.output, h.size, fun k hk => h.block k (by omega) (hS k hk)⟩

theorem Keep.cell {S : Nat → Prop} {w w' : World} (h : Keep S w w') {p : Addr} (hp : p.block < w.heap.size) (hs : ¬ S p.block) : w'.cell? p = w.cell? p :=
  World.cell?_of_block (w := w) (h.block p.block hp hs)
theorem Keep.frozen {S : Nat → Prop} {w w' : World} (h : Keep S w w') {p : Addr} (hp : p.block < w.heap.size) (hs : ¬ S p.block) : w'.frozen? p = w.frozen? p :=
  World.frozen?_of_block (w := w) (h.block p.block hp hs)

/-- No block that was there has changed. -/
abbrev New (w w' : World) : Prop := Keep (fun _ => False) w w'

theorem New.of_grown {w w' : World} (h : w.grownBy w' none) : New w w' := (Keep.refl _ w).grown h (fun k e => by cases e)
theorem Keep.then {S : Nat → Prop} {a b c : World} (h : Keep S a b) (k : New b c) : Keep S a c := h.trans k (fun _ _ f => f.elim)

/-- The cells from an address on hold these values. -/
def CellsAt (w : World) (ad : Addr) (vs : List Value) : Prop := ∀ j u, vs[j]? = some u → w.cell? (ad.add j) = some u

/-- A slice value whose elements are these cells (one cell each): nil, or of any address where there are none. -/
def RowAt (w : World) (v : Value) (vs : List Value) : Prop :=
  ∃ a c, v = .slice a vs.length c ∧ vs.length ≤ c ∧ c ≤ maxLen ∧ (a = none → c = 0) ∧ ∀ ad, a = some ad → CellsAt w ad vs

def BytesAt (w : World) (v : Value) (l : List UInt8) : Prop := RowAt w v (bytesV l)
def IntsAt (w : World) (v : Value) (l : List Int) : Prop := RowAt w v (intsV l)

theorem CellsAt.keep {S : Nat → Prop} {w w' : World} {ad : Addr} {vs : List Value} (h : CellsAt w ad vs) (k : Keep S w w') (hs : vs ≠ [] → ¬ S ad.block) : CellsAt w' ad vs := by
  intro j u hu
  have hc := h j u hu
  have hb : (ad.add j).block = ad.block := by unfold Addr.add; split <;> rfl
  have hne : vs ≠ [] := by intro e; subst e; simp at hu
  have hlt : (ad.add j).block < w.heap.size := World.block_lt_of_cell? w _ hc
  rw [k.cell hlt (by rw [hb]; exact hs hne)]
  exact hc

/-- The blocks in which a slice's elements lie. -/
def Value.inBlock (v : Value) (k : Nat) : Prop := ∃ ad n c, v = .slice (some ad) n c ∧ 0 < n ∧ ad.block = k

theorem RowAt.keep {S : Nat → Prop} {w w' : World} {v : Value} {vs : List Value} (h : RowAt w v vs) (k : Keep S w w') (hs : ∀ i, Value.inBlock v i → ¬ S i) : RowAt w' v vs := by
  obtain ⟨a, c, rfl, h1, h2, h3, h4⟩ := h
  refine ⟨a, c, rfl, h1, h2, h3, fun ad e => ?_⟩
  subst e
  refine (h4 ad rfl).keep k (fun hne => hs _ ⟨ad, _, c, rfl, ?_, rfl⟩)
  cases vs with
  | nil => exact absurd rfl hne
  | cons x r => simp

theorem RowAt.new {w w' : World} {v : Value} {vs : List Value} (h : RowAt w v vs) (k : New w w') : RowAt w' v vs := h.keep k (fun _ _ f => f)
theorem BytesAt.new {w w' : World} {v : Value} {l : List UInt8} (h : BytesAt w v l) (k : New w w') : BytesAt w' v l := RowAt.new h k
theorem IntsAt.new {w w' : World} {v : Value} {l : List Int} (h : IntsAt w v l) (k : New w w') : IntsAt w' v l := RowAt.new h k

theorem RowAt.lt {w : World} {v : Value} {vs : List Value} (h : RowAt w v vs) : ∀ i, Value.inBlock v i → i < w.heap.size := by
  rintro i ⟨ad, n, c, rfl, hn, rfl⟩
  obtain ⟨a, c', e, h1, h2, h3, h4⟩ := h
  simp only [Value.slice.injEq] at e
  obtain ⟨rfl, rfl, rfl⟩ := e
  have := h4 ad rfl 0 (vs[0]'(by omega)) (by simp [hn])
  simpa [Addr.add] using World.block_lt_of_cell? w _ this


theorem ownsRow_rowAt {w : World} {base : Nat} {e : TypeId} {v : Value} {n : Nat} {xs : List Value} (h : w.ownsRow base e 1 v n xs) : RowAt w v xs := by
  have hl : xs.length = n := by have := h.1; omega
  rcases h.2 with ⟨rfl, rfl⟩ | ⟨g, cap, cur, rfl, hb, hg, h1, h2, h3, h4⟩
  · refine ⟨none, 0, by rw [hl], by omega, by unfold maxLen; omega, fun _ => rfl, fun ad e => by cases e⟩
  · refine ⟨some ⟨g, 0, none⟩, cap, by rw [hl], by omega, h2, (fun e => by cases e), fun ad e => ?_⟩
    cases e
    exact fun j u hu => World.ownsRow.cells (v := .slice (some ⟨g, 0, none⟩) n cap) h rfl j u hu

/-- The block of a row of one's own is that of its elements. -/
theorem inBlock_own {a : Option Addr} {n c i : Nat} (h : Value.inBlock (.slice a n c) i) : (Value.slice a n c).ownBlock = some i := by
  obtain ⟨ad, n', c', e, _, rfl⟩ := h
  simp only [Value.slice.injEq] at e
  obtain ⟨rfl, _, _⟩ := e
  rfl

theorem cell_new (w : World) (cs : Array Value) (t : TypeId) (o : Nat) : (w.alloc (.cells cs t)).cell? ⟨w.heap.size, o, none⟩ = cs[o]? := by
  unfold World.cell?
  rw [show (w.alloc (.cells cs t)).heap[(⟨w.heap.size, o, none⟩ : Addr).block]? = some (.cells cs t) from heap_alloc_new w _]
  simp

theorem Keep.cellAt {S : Nat → Prop} {w w' : World} (h : Keep S w w') {p : Addr} {v : Value} (hc : w.cell? p = some v) (hs : ¬ S p.block) : w'.cell? p = some v :=
  (h.cell (World.block_lt_of_cell? w p hc) hs).trans hc
theorem New.cellAt {w w' : World} (h : New w w') {p : Addr} {v : Value} (hc : w.cell? p = some v) : w'.cell? p = some v := Keep.cellAt h hc (fun f => f)

/-! ### append onto a row of one's own, whatever slice is appended -/
section
variable {P : Program} {w : World}

theorem ownsRow_slice {w : World} {base : Nat} {e : TypeId} {size : Nat} {v : Value} {n : Nat} {xs : List Value} (h : w.ownsRow base e size v n xs) : ∃ a c, v = .slice a n c := by
  rcases h.2 with ⟨rfl, rfl⟩ | ⟨g, cap, cur, rfl, _⟩
  · exact ⟨_, _, rfl⟩
  · exact ⟨_, _, rfl⟩

theorem run_append_row (t ty base : Nat) (e : TypeId) (i : TypeInfo) (z : Value) (size bytes : Nat) (ht : P.underlying t = some (.slice e)) (hi : P.info? e = some i) (hz : i.zero = some z)
    (hsize : i.size = size) (hby : i.bytes = bytes) (hzs : z.cells.size = size) (hsz : 0 < size)
    (v : Value) (n : Nat) (xs : List Value) (hown : w.ownsRow base e size v n xs)
    (ao : Option Addr) (m c : Nat) (news : List Value) (hnone : ao = none → m = 0 ∧ c = 0) (hl : news.length = m * size) (hnews : ∀ ad, ao = some ad → CellsAt w ad news) (h1 : ∀ u ∈ news, u.oneCell' = true)
    (h63 : n + m ≤ maxLen) (hbytes : (n + m) * bytes ≤ 140737488355328) (hbase : base ≤ w.heap.size) :
    ∃ a' c' w', (Builtin.append_ #[t, t] ty #[v, .slice ao m c]).run P w = .ok (.slice a' (n + m) c') w' ∧ w'.ownsRow base e size (.slice a' (n + m) c') (n + m) (xs ++ news) ∧ w.grownBy w' v.ownBlock ∧
      (∀ k, (Value.slice a' (n + m) c').ownBlock = some k → v.ownBlock = some k ∨ k = w.heap.size) ∧ (Value.slice a' (n + m) c' = .slice none 0 0 ↔ v = .slice none 0 0 ∧ m = 0) := by
  cases ao with
  | none =>
    obtain ⟨rfl, rfl⟩ := hnone rfl
    have hn : news = [] := List.eq_nil_of_length_eq_zero (by simpa using hl)
    subst hn
    obtain ⟨a', c', rfl⟩ := ownsRow_slice hown
    exact ⟨a', c', w, run_append_owned_none (P := P) (w := w) base t ty e i size ht hi _ n xs hown, by simpa using hown, ⟨rfl, rfl, rfl, Nat.le_refl _, fun _ _ _ => rfl⟩, fun k hk => .inl hk, by simp⟩
  | some ad =>
    obtain ⟨v', w', hr, h2, h3, h4, h5⟩ := run_append_own_at (P := P) w base t ty e i z size bytes ht hi hz hsize hby hzs hsz v n xs hown ad m c news hl (hnews ad rfl) h1 h63 hbytes hbase
    obtain ⟨a', c', rfl⟩ := ownsRow_slice h2
    refine ⟨a', c', w', hr, h2, h3, fun k hk => ?_, h4⟩
    rcases h5 with h5 | h5
    · left; rw [← h5]; exact hk
    · right; rw [h5] at hk; exact (Option.some.inj hk).symm

theorem wp_append_row {o : Oper} {a : Act} {K : Act → World → Prop} {Q : Exit → Act → World → Prop} (s x : Operand) (t : TypeId)
    (ho : o.op = .call { callee := .builtin .append, args := #[s, x], argTypes := #[t, t] })
    (base : Nat) (e : TypeId) (i : TypeInfo) (z : Value) (size bytes : Nat) (ht : P.underlying t = some (.slice e)) (hi : P.info? e = some i) (hz : i.zero = some z)
    (hsize : i.size = size) (hby : i.bytes = bytes) (hzs : z.cells.size = size) (hsz : 0 < size)
    (v : Value) (n : Nat) (xs : List Value) (hs : a.eval s = v) (hown : w.ownsRow base e size v n xs)
    (ao : Option Addr) (m c : Nat) (news : List Value) (hx : a.eval x = .slice ao m c) (hnone : ao = none → m = 0 ∧ c = 0) (hl : news.length = m * size) (hnews : ∀ ad, ao = some ad → CellsAt w ad news) (h1 : ∀ u ∈ news, u.oneCell' = true)
    (h63 : n + m ≤ maxLen) (hbytes : (n + m) * bytes ≤ 140737488355328) (hbase : base ≤ w.heap.size)
    (h : ∀ a' c' w', w'.ownsRow base e size (.slice a' (n + m) c') (n + m) (xs ++ news) → w.grownBy w' v.ownBlock → (∀ k, (Value.slice a' (n + m) c').ownBlock = some k → v.ownBlock = some k ∨ k = w.heap.size) → K (a.put o.dst (.slice a' (n + m) c')) w') : o.wp P a w K Q := by
  obtain ⟨a', c', w', hr, h2, h3, h4, _⟩ := run_append_row (P := P) t o.type base e i z size bytes ht hi hz hsize hby hzs hsz v n xs hown ao m c news hnone hl hnews h1 h63 hbytes hbase
  unfold Oper.wp execOp
  simp only [ho, resolve, invoke, builtin, Sem.run_bind, Sem.run_pure, Result.andThen_ok, List.map_toArray, List.map_cons, List.map_nil, hs, hx, hr]
  exact h a' c' w' h2 h3 h4

theorem wpList_append_row {ops : Array Oper} {rest : List Oper} {o : Oper} {a : Act} {Q : Exit → Act → World → Prop} (hgd : o.guard = none) (s x : Operand) (t : TypeId)
    (ho : o.op = .call { callee := .builtin .append, args := #[s, x], argTypes := #[t, t] })
    (base : Nat) (e : TypeId) (i : TypeInfo) (z : Value) (size bytes : Nat) (ht : P.underlying t = some (.slice e)) (hi : P.info? e = some i) (hz : i.zero = some z)
    (hsize : i.size = size) (hby : i.bytes = bytes) (hzs : z.cells.size = size) (hsz : 0 < size)
    (v : Value) (n : Nat) (xs : List Value) (hs : a.eval s = v) (hown : w.ownsRow base e size v n xs)
    (ao : Option Addr) (m c : Nat) (news : List Value) (hx : a.eval x = .slice ao m c) (hnone : ao = none → m = 0 ∧ c = 0) (hl : news.length = m * size) (hnews : ∀ ad, ao = some ad → CellsAt w ad news) (h1 : ∀ u ∈ news, u.oneCell' = true)
    (h63 : n + m ≤ maxLen) (hbytes : (n + m) * bytes ≤ 140737488355328) (hbase : base ≤ w.heap.size)
    (h : ∀ a' c' w', w'.ownsRow base e size (.slice a' (n + m) c') (n + m) (xs ++ news) → w.grownBy w' v.ownBlock → (∀ k, (Value.slice a' (n + m) c').ownBlock = some k → v.ownBlock = some k ∨ k = w.heap.size) → wpList P ops Q rest (a.put o.dst (.slice a' (n + m) c')) w') : wpList P ops Q (o :: rest) a w :=
  wpList_plain hgd fun _ hK => wp_append_row s x t ho base e i z size bytes ht hi hz hsize hby hzs hsz v n xs hs hown ao m c news hx hnone hl hnews h1 h63 hbytes hbase fun a' c' w' h2 h3 h4 => hK _ _ (h a' c' w' h2 h3 h4)

theorem step_append_row {ops : Array Oper} {o : Oper} {a : Act} {K : Act → World → Prop} {Q : Exit → Act → World → Prop} {E : Prop} (hgd : o.guard = none) (s x : Operand) (t : TypeId)
    (ho : o.op = .call { callee := .builtin .append, args := #[s, x], argTypes := #[t, t] })
    (base : Nat) (e : TypeId) (i : TypeInfo) (z : Value) (size bytes : Nat) (ht : P.underlying t = some (.slice e)) (hi : P.info? e = some i) (hz : i.zero = some z)
    (hsize : i.size = size) (hby : i.bytes = bytes) (hzs : z.cells.size = size) (hsz : 0 < size)
    (v : Value) (n : Nat) (xs : List Value) (hs : a.eval s = v) (hown : w.ownsRow base e size v n xs)
    (ao : Option Addr) (m c : Nat) (news : List Value) (hx : a.eval x = .slice ao m c) (hnone : ao = none → m = 0 ∧ c = 0) (hl : news.length = m * size) (hnews : ∀ ad, ao = some ad → CellsAt w ad news) (h1 : ∀ u ∈ news, u.oneCell' = true)
    (h63 : n + m ≤ maxLen) (hbytes : (n + m) * bytes ≤ 140737488355328) (hbase : base ≤ w.heap.size)
    (h : ∀ a' c' w', w'.ownsRow base e size (.slice a' (n + m) c') (n + m) (xs ++ news) → w.grownBy w' v.ownBlock → (∀ k, (Value.slice a' (n + m) c').ownBlock = some k → v.ownBlock = some k ∨ k = w.heap.size) → K (a.put o.dst (.slice a' (n + m) c')) w') :
    if Region.wanted o (yielded ops a.tmps) = true then Oper.wp P o a w K Q else E := by
  have hw : Region.wanted o (yielded ops a.tmps) = true := by simp [Region.wanted, hgd]
  rw [if_pos hw]
  exact wp_append_row s x t ho base e i z size bytes ht hi hz hsize hby hzs hsz v n xs hs hown ao m c news hx hnone hl hnews h1 h63 hbytes hbase h
end

end Go.Proofs.YtfigpbcmnlkdjaaDoor
