/-
  Each call of the plain reader, told by the data that are left. No program in sight.
-/
import Derived.Test.YtfigpbcmnlkdjaaDoorPureI
namespace Go.Proofs.YtfigpbcmnlkdjaaDoor

/-- The same source, the same size: what no call changes. -/
structure Rd.Same (b c : Rd) : Prop where
  data : c.src.data = b.src.data
  cuts : c.src.cuts = b.src.cuts
  eof : c.src.eof = b.src.eof
  wth : c.src.wth = b.src.wth
  size : c.size = b.size

theorem Rd.Same.refl (b : Rd) : b.Same b := ⟨rfl, rfl, rfl, rfl, rfl⟩
theorem Rd.Same.trans {a b c : Rd} (h : a.Same b) (k : b.Same c) : a.Same c :=
  ⟨k.data.trans h.data, k.cuts.trans h.cuts, k.eof.trans h.eof, k.wth.trans h.wth, k.size.trans h.size⟩
theorem Rd.Like.same {b c : Rd} (h : b.Like c) : b.Same c := ⟨h.data, h.cuts, h.eof, h.wth, h.size⟩

/-- A reader that has gone on by n bytes, and fits. -/
structure Rd.On (b c : Rd) (n : Nat) : Prop where
  fit : c.Fit
  same : b.Same c
  cur : c.cur = b.cur + n

theorem Rd.On.todo {b c : Rd} {n : Nat} (h : b.On c n) : c.todo = b.todo.drop n := by
  unfold Rd.todo; rw [h.same.data, h.cur, List.drop_drop]
theorem Rd.On.trans {a b c : Rd} {n m : Nat} (h : a.On b n) (k : b.On c m) : a.On c (n + m) :=
  ⟨k.fit, h.same.trans k.same, by rw [k.cur, h.cur]; omega⟩

theorem Rd.Fit.marks {b : Rd} (h : b.Fit) (x y : Int) (hx : -1 ≤ x ∧ x ≤ 255) (hy : -1 ≤ y ∧ y ≤ 4) : ({ b with lb := x, lr := y } : Rd).Fit :=
  ⟨⟨h.ok.src, h.ok.size, h.ok.r, h.ok.w, h.ok.err, hx, hy⟩, h.av, h.rest⟩
theorem Rd.Fit.clear {b : Rd} (h : b.Fit) : b.clear.Fit :=
  ⟨⟨h.ok.src, h.ok.size, h.ok.r, h.ok.w, (fun e => by cases e), h.ok.lb, h.ok.lr⟩, h.av, h.rest⟩

/-- Going on in the buffer. -/
theorem Rd.Fit.step {b : Rd} (h : b.Fit) (n : Nat) (hn : n ≤ b.avail) (x y : Int) (hx : -1 ≤ x ∧ x ≤ 255) (hy : -1 ≤ y ∧ y ≤ 4) :
    b.On { b with r := b.r + n, lb := x, lr := y } n := by
  have h1 := h.av; have h2 := h.ok.r
  have ea : ({ b with r := b.r + n, lb := x, lr := y } : Rd).avail = b.avail - n := by simp only [Rd.avail]; omega
  have ec : ({ b with r := b.r + n, lb := x, lr := y } : Rd).cur = b.cur + n := by
    unfold Rd.cur; rw [ea]; show b.src.pos - (b.avail - n) = _; omega
  have hr : b.r + n ≤ b.buf.length := by unfold Rd.avail at hn; omega
  refine ⟨⟨⟨h.ok.src, h.ok.size, hr, h.ok.w, h.ok.err, hx, hy⟩, ?_, ?_⟩, ⟨rfl, rfl, rfl, rfl, rfl⟩, ec⟩
  · rw [ea]; show b.avail - n ≤ b.src.pos; omega
  · have er : ({ b with r := b.r + n, lb := x, lr := y } : Rd).rest = b.rest.drop n := by simp [Rd.rest, List.drop_drop]
    have et : ({ b with r := b.r + n, lb := x, lr := y } : Rd).todo = b.todo.drop n := by
      unfold Rd.todo; rw [ec]; simp [List.drop_drop]
    rw [er, ea, et, h.rest, List.drop_take]

theorem lastOf_bounds (l : List UInt8) (d : Int) (h : -1 ≤ d ∧ d ≤ 255) : -1 ≤ lastOf l d ∧ lastOf l d ≤ 255 := by
  unfold lastOf
  split
  · rename_i x _; have := x.toNat_lt; omega
  · exact h

theorem Rd.readByte_none {b : Rd} (h : b.Fit) (e : b.todo = []) : b.readByte.2 = (0, erEnds) ∧ b.On b.readByte.1 0 := by
  have h0 : ({ b with lr := -1 } : Rd).Fit := h.marks b.lb (-1) h.ok.lb (by omega)
  have hf := Rd.fills_fit Rd.byteGo_modest b.more _ h0
  have hl := (Rd.fills_ok Rd.byteGo_modest b.more _ h0.ok).2
  unfold Rd.readByte
  generalize Rd.fills Rd.byteGo b.more { b with lr := -1 } = b1 at hf hl
  have ht : b1.todo = [] := by
    have : b1.todo = b.todo := by unfold Rd.todo; rw [hl.data, hf.2]; rfl
    rw [this, e]
  have hr : b1.rest = [] := by rw [hf.1.rest, ht]; simp
  simp only [hr]
  exact ⟨by simp, ⟨hf.1.clear, ⟨hl.data, hl.cuts, hl.eof, hl.wth, hl.size⟩, by rw [Nat.add_zero]; exact hf.2⟩⟩

theorem Rd.readByte_some {b : Rd} (h : b.Fit) {c : UInt8} {t : List UInt8} (e : b.todo = c :: t) : b.readByte.2 = (c, erNone) ∧ b.On b.readByte.1 1 ∧ b.readByte.1.lb = c.toNat ∧ b.readByte.1.lr = -1 ∧ 0 < b.readByte.1.r := by
  have h0 : ({ b with lr := -1 } : Rd).Fit := h.marks b.lb (-1) h.ok.lb (by omega)
  have hf := Rd.fills_fit Rd.byteGo_modest b.more _ h0
  have hl := (Rd.fills_ok Rd.byteGo_modest b.more _ h0.ok).2
  have hd := Rd.fills_done Rd.byteGo_modest b.more _ h0.ok (Nat.le_refl _)
  unfold Rd.readByte
  generalize Rd.fills Rd.byteGo b.more { b with lr := -1 } = b1 at hf hl hd
  have ht : b1.todo = c :: t := by
    have : b1.todo = b.todo := by unfold Rd.todo; rw [hl.data, hf.2]; rfl
    rw [this, e]
  have ha : 0 < b1.avail := by
    rcases Nat.eq_zero_or_pos b1.avail with h0 | h0
    · simp [Rd.byteGo, h0] at hd
      have := hf.1.rest_all (hf.1.ok.err hd)
      rw [ht] at this
      have hn := b1.rest_length
      rw [this, h0] at hn; simp at hn
    · exact h0
  have hr : ∃ t', b1.rest = c :: t' := by
    rw [hf.1.rest, ht]
    obtain ⟨k, hk⟩ : ∃ k, b1.avail = k + 1 := ⟨b1.avail - 1, by omega⟩
    rw [hk]; exact ⟨_, rfl⟩
  obtain ⟨t', hr⟩ := hr
  simp only [hr]
  have hb := c.toNat_lt
  have hs := hf.1.step 1 (by omega) c.toNat b1.lr (by omega) hf.1.ok.lr
  have hsame : b.Same b1 := ⟨hl.data, hl.cuts, hl.eof, hl.wth, hl.size⟩
  refine ⟨by simp, ⟨hs.fit, hsame.trans hs.same, by rw [hs.cur, hf.2]; rfl⟩, by simp, hl.lr, by simp⟩

/-- What Peek of n bytes gives. -/
theorem Rd.peek_on {b : Rd} (h : b.Fit) (n : Nat) : b.On (b.peek n).1 0 ∧ (b.peek n).1.lb = -1 ∧ (b.peek n).1.lr = -1 ∧
    (if b.size < n then (b.peek n).2.2 = erFull ∧ ∃ k, k ≤ b.size ∧ (b.peek n).2.1 = b.todo.take k ∧ min b.size b.todo.length ≤ k
     else (b.peek n).2.1 = b.todo.take n ∧ (b.peek n).2.2 = if b.todo.length < n then erEnds else erNone) ∧
    (b.peek n).1.avail ≥ min (min n b.size) b.todo.length := by
  have h0 : ({ b with lb := -1, lr := -1 } : Rd).Fit := h.marks (-1) (-1) (by omega) (by omega)
  have hf := Rd.fills_fit (Rd.peekGo_modest n) b.more _ h0
  have hl := (Rd.fills_ok (Rd.peekGo_modest n) b.more _ h0.ok).2
  have hd := Rd.fills_done (Rd.peekGo_modest n) b.more _ h0.ok (Nat.le_refl _)
  unfold Rd.peek
  generalize Rd.fills (Rd.peekGo n) b.more { b with lb := -1, lr := -1 } = b1 at hf hl hd
  have ht : b1.todo = b.todo := by unfold Rd.todo; rw [hl.data, hf.2]; rfl
  have hlen := hf.1.todo_length
  have hsz : b1.size = b.size := hl.size
  have hsame : b.Same b1 := ⟨hl.data, hl.cuts, hl.eof, hl.wth, hl.size⟩
  have hcur : b1.cur = b.cur + 0 := by rw [Nat.add_zero]; exact hf.2
  have hw := hf.1.ok.w
  have hav : b1.avail ≤ b1.size := by unfold Rd.avail; omega
  rw [ht] at hlen
  have hdd : n ≤ b1.avail ∨ b1.size ≤ b1.avail ∨ (b1.err = true ∧ b1.src.pos = b1.src.data.length) := by
    simp [Rd.peekGo] at hd
    rcases Nat.lt_or_ge b1.avail n with h1 | h1
    · rcases Nat.lt_or_ge b1.avail b1.size with h2 | h2
      · right; right; exact ⟨hd h1 h2, hf.1.ok.err (hd h1 h2)⟩
      · right; left; exact h2
    · left; exact h1
  simp only []
  by_cases hn : b.size < n
  · rw [if_pos (by omega), if_pos hn]
    refine ⟨⟨hf.1, hsame, hcur⟩, hl.lb, hl.lr, ⟨rfl, b1.avail, by omega, by rw [← ht]; exact hf.1.rest, ?_⟩, ?_⟩
    · rcases hdd with h1 | h1 | ⟨_, h1⟩ <;> omega
    · show b1.avail ≥ _; rcases hdd with h1 | h1 | ⟨_, h1⟩ <;> omega
  · rw [if_neg (by omega), if_neg hn]
    by_cases ha : b1.avail < n
    · rw [if_pos ha]
      have he : b1.err = true ∧ b1.src.pos = b1.src.data.length := by
        rcases hdd with h1 | h1 | h1
        · omega
        · omega
        · exact h1
      refine ⟨⟨hf.1.clear, ⟨hl.data, hl.cuts, hl.eof, hl.wth, hl.size⟩, hcur⟩, hl.lb, hl.lr, ⟨?_, ?_⟩, ?_⟩
      · show b1.rest = _
        rw [hf.1.rest_all he.2, ht, List.take_of_length_le (by omega)]
      · show (if b1.err then _ else _) = _
        have hlt : b.todo.length < n := by have := he.2; omega
        rw [he.1, if_pos hlt]; rfl
      · show b1.avail ≥ _; omega
    · rw [if_neg ha]
      refine ⟨⟨hf.1, hsame, hcur⟩, hl.lb, hl.lr, ⟨?_, ?_⟩, ?_⟩
      · show b1.rest.take n = _
        rw [hf.1.rest, ht, List.take_take]; congr 1; omega
      · rw [if_neg (by omega)]
      · show b1.avail ≥ _; omega

end Go.Proofs.YtfigpbcmnlkdjaaDoor
