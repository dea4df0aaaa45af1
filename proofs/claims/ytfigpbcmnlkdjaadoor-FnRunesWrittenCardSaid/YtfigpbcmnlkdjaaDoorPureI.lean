/-
  What the plain reader does, told by the data that are left: its place in the data, and what each call gives of them. No program in sight.
-/
import Derived.Test.YtfigpbcmnlkdjaaDoorPureR
namespace Go.Proofs.YtfigpbcmnlkdjaaDoor

/-- The place in the data up to which all has been read. -/
def Rd.cur (b : Rd) : Nat := b.src.pos - b.avail
/-- What is left to be read. -/
def Rd.todo (b : Rd) : List UInt8 := b.src.data.drop b.cur

/-- What is in the buffer is what stands next in the data. -/
structure Rd.Fit (b : Rd) : Prop where
  ok : b.Ok
  av : b.avail ≤ b.src.pos
  rest : b.rest = b.todo.take b.avail

theorem Rd.Fit.cur_le {b : Rd} (h : b.Fit) : b.cur ≤ b.src.data.length := by
  have := h.ok.src.pos; unfold Rd.cur; omega

theorem Rd.Fit.todo_eq {b : Rd} (h : b.Fit) : b.todo = b.rest ++ b.src.data.drop b.src.pos := by
  have h1 := h.av
  rw [h.rest]
  unfold Rd.todo
  have : b.src.data.drop b.src.pos = (b.src.data.drop b.cur).drop b.avail := by
    rw [List.drop_drop]; congr 1; unfold Rd.cur; omega
  rw [this, List.take_append_drop]

theorem Rd.Fit.todo_length {b : Rd} (h : b.Fit) : b.todo.length = b.avail + (b.src.data.length - b.src.pos) := by
  rw [h.todo_eq]; simp [Rd.rest_length]

theorem Rd.Fit.rest_all {b : Rd} (h : b.Fit) (he : b.src.pos = b.src.data.length) : b.rest = b.todo := by
  rw [h.todo_eq, he]; simp

theorem Rd.fresh_fit (s : Src) (size : Nat) (h : s.Ok) (h1 : 16 ≤ size) (h2 : size ≤ 32767) : (Rd.fresh s size).Fit := by
  refine ⟨⟨h, ⟨h1, h2⟩, Nat.zero_le _, Nat.zero_le _, (fun e => by cases e), ⟨by simp [Rd.fresh], by simp [Rd.fresh]⟩, ⟨by simp [Rd.fresh], by simp [Rd.fresh]⟩⟩, Nat.zero_le _, ?_⟩
  simp [Rd.fresh, Rd.rest, Rd.avail]

theorem Rd.fill_avail {b : Rd} (h : b.Ok) : b.fill.avail = b.avail + b.src.gives (b.size - b.avail) := by
  simp [Rd.fill, Rd.avail, Rd.rest_length, Src.bytes_length h.src]

theorem Rd.fill_cur {b : Rd} (h : b.Fit) : b.fill.cur = b.cur := by
  have := h.av
  unfold Rd.cur
  rw [Rd.fill_avail h.ok]
  simp only [Rd.fill, Src.after_pos]
  omega

theorem Rd.fill_data (b : Rd) : b.fill.src.data = b.src.data := by simp [Rd.fill, Src.after_data]

theorem Rd.fill_fit {b : Rd} (h : b.Fit) (hf : b.avail < b.size) : b.fill.Fit := by
  have h1 := h.av
  have h2 := Src.gives_le h.ok.src (b.size - b.avail)
  refine ⟨Rd.fill_ok h.ok hf, ?_, ?_⟩
  · rw [Rd.fill_avail h.ok]; simp only [Rd.fill, Src.after_pos]; omega
  · have e1 : b.fill.rest = b.rest ++ b.src.bytes (b.size - b.avail) := by simp [Rd.fill, Rd.rest]
    rw [e1, Rd.fill_avail h.ok]
    unfold Rd.todo
    rw [Rd.fill_cur h, Rd.fill_data, h.rest]
    unfold Rd.todo Src.bytes
    have : b.src.data.drop b.src.pos = (b.src.data.drop b.cur).drop b.avail := by
      rw [List.drop_drop]; congr 1; unfold Rd.cur; omega
    rw [this, ← List.take_add]

/-- What filling leaves as it was. -/
structure Rd.Like (b c : Rd) : Prop where
  data : c.src.data = b.src.data
  cuts : c.src.cuts = b.src.cuts
  eof : c.src.eof = b.src.eof
  wth : c.src.wth = b.src.wth
  size : c.size = b.size
  lb : c.lb = b.lb
  lr : c.lr = b.lr

theorem Rd.Like.refl (b : Rd) : b.Like b := ⟨rfl, rfl, rfl, rfl, rfl, rfl, rfl⟩
theorem Rd.Like.trans {a b c : Rd} (h : a.Like b) (k : b.Like c) : a.Like c :=
  ⟨k.data.trans h.data, k.cuts.trans h.cuts, k.eof.trans h.eof, k.wth.trans h.wth, k.size.trans h.size, k.lb.trans h.lb, k.lr.trans h.lr⟩
theorem Rd.fill_like (b : Rd) : b.Like b.fill := ⟨Src.after_data _ _, Src.after_cuts _ _, Src.after_eof _ _, Src.after_wth _ _, rfl, rfl, rfl⟩

/-- A test that asks for more only where there is room and no error. -/
def Rd.Modest (go : Rd → Bool) : Prop := ∀ b : Rd, b.Ok → go b = true → b.avail < b.size ∧ b.err = false

theorem Rd.fills_ok {go : Rd → Bool} (hg : Rd.Modest go) : ∀ (k : Nat) (b : Rd), b.Ok → (Rd.fills go k b).Ok ∧ b.Like (Rd.fills go k b) := by
  intro k
  induction k with
  | zero => intro b h; exact ⟨h, Rd.Like.refl _⟩
  | succ k ih =>
    intro b h
    unfold Rd.fills
    by_cases e : go b = true
    · rw [if_pos e]
      obtain ⟨h1, h2⟩ := ih b.fill (Rd.fill_ok h (hg b h e).1)
      exact ⟨h1, (Rd.fill_like b).trans h2⟩
    · rw [if_neg e]; exact ⟨h, Rd.Like.refl _⟩

theorem Rd.fills_done {go : Rd → Bool} (hg : Rd.Modest go) : ∀ (k : Nat) (b : Rd), b.Ok → b.more ≤ k → go (Rd.fills go k b) = false := by
  intro k
  induction k with
  | zero =>
    intro b h hk
    unfold Rd.fills
    cases e : go b with
    | false => rfl
    | true =>
      have := (hg b h e).2
      unfold Rd.more at hk
      rw [this] at hk; simp at hk
  | succ k ih =>
    intro b h hk
    unfold Rd.fills
    by_cases e : go b = true
    · rw [if_pos e]
      have := Rd.fill_more h (hg b h e).1 (hg b h e).2
      exact ih b.fill (Rd.fill_ok h (hg b h e).1) (by omega)
    · rw [if_neg e]; simpa using e

/-- More rounds than are wanted change nothing. -/
theorem Rd.fills_more {go : Rd → Bool} (hg : Rd.Modest go) : ∀ (k j : Nat) (b : Rd), b.Ok → b.more ≤ k → b.more ≤ j → Rd.fills go k b = Rd.fills go j b := by
  intro k
  induction k with
  | zero =>
    intro j b h hk _
    have e : go b = false := Rd.fills_done hg 0 b h hk
    cases j with
    | zero => rfl
    | succ j => unfold Rd.fills; rw [e]; rfl
  | succ k ih =>
    intro j b h hk hj
    by_cases e : go b = true
    · have hm := Rd.fill_more h (hg b h e).1 (hg b h e).2
      cases j with
      | zero => omega
      | succ j =>
        unfold Rd.fills
        rw [if_pos e, if_pos e]
        exact ih j b.fill (Rd.fill_ok h (hg b h e).1) (by omega) (by omega)
    · cases j with
      | zero => unfold Rd.fills; rw [if_neg e]
      | succ j => unfold Rd.fills; rw [if_neg e, if_neg e]

/-- One round more at the head: what a loop's head needs. -/
theorem Rd.fills_step {go : Rd → Bool} (hg : Rd.Modest go) {b : Rd} (h : b.Ok) (e : go b = true) : Rd.fills go b.more b = Rd.fills go b.fill.more b.fill := by
  have hm := Rd.fill_more h (hg b h e).1 (hg b h e).2
  have hf := Rd.fill_ok h (hg b h e).1
  obtain ⟨j, hj⟩ : ∃ j, b.more = j + 1 := ⟨b.more - 1, by omega⟩
  rw [hj]
  show (if go b then Rd.fills go j b.fill else b) = _
  rw [if_pos e]
  exact Rd.fills_more hg j b.fill.more b.fill hf (by omega) (Nat.le_refl _)

theorem Rd.fills_stop {go : Rd → Bool} {b : Rd} (k : Nat) (e : go b = false) : Rd.fills go k b = b := by
  cases k with
  | zero => rfl
  | succ k => unfold Rd.fills; rw [e]; rfl

theorem Rd.fills_fit {go : Rd → Bool} (hg : Rd.Modest go) : ∀ (k : Nat) (b : Rd), b.Fit → (Rd.fills go k b).Fit ∧ (Rd.fills go k b).cur = b.cur := by
  intro k
  induction k with
  | zero => intro b h; exact ⟨h, rfl⟩
  | succ k ih =>
    intro b hf
    have h := hf.ok
    unfold Rd.fills
    by_cases e : go b = true
    · rw [if_pos e]
      obtain ⟨h1, h2⟩ := ih b.fill (Rd.fill_fit hf (hg b h e).1)
      exact ⟨h1, h2.trans (Rd.fill_cur hf)⟩
    · rw [if_neg e]; exact ⟨hf, rfl⟩

theorem Rd.peekGo_modest (n : Nat) : Rd.Modest (Rd.peekGo n) := by
  intro b _ h; simp [Rd.peekGo] at h; exact ⟨h.1.2, h.2⟩
theorem Rd.byteGo_modest : Rd.Modest Rd.byteGo := by
  intro b h e; have := h.size; simp [Rd.byteGo] at e; exact ⟨by omega, e.2⟩
theorem Rd.sliceGo_modest (d : UInt8) : Rd.Modest (Rd.sliceGo d) := by
  intro b _ h; simp [Rd.sliceGo] at h; exact ⟨h.2, h.1.2⟩

end Go.Proofs.YtfigpbcmnlkdjaaDoor
