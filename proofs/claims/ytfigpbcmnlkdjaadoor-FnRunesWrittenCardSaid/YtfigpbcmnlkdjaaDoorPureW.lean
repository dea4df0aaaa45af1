/-
  The writer in plain words: a sink with room, a buffered writer over it, and what a call may leave of it. No program in sight.
-/
namespace Go.Proofs.YtfigpbcmnlkdjaaDoor

/-- A sink: how much room there is, and all that it has taken. -/
structure Snk where
  room : Int
  got : List UInt8

/-- How many of k bytes the sink takes. -/
def Snk.fits (s : Snk) (k : Nat) : Nat := min k s.room.toNat

def Snk.put (s : Snk) (p : List UInt8) : Snk := { room := s.room - s.fits p.length, got := s.got ++ p.take (s.fits p.length) }

/-- A writer: its sink, the size of its buffer, what is in the buffer, and whether an error has come. -/
structure Wr where
  snk : Snk
  size : Nat
  buf : List UInt8
  err : Bool

structure Wr.Ok (b : Wr) : Prop where
  size : 1 ≤ b.size ∧ b.size ≤ 32767
  buf : b.buf.length ≤ b.size

def Wr.avail (b : Wr) : Nat := b.size - b.buf.length

def Wr.flush (b : Wr) : Wr :=
  if b.err || b.buf.isEmpty then b
  else
    let n := b.snk.fits b.buf.length
    { b with snk := b.snk.put b.buf, buf := b.buf.drop n, err := decide (n < b.buf.length) }

/-- A writer whose numbers are in bounds. -/
structure Wr.Fits (st : Wr) : Prop where
  ok : st.Ok
  r1 : -9223372036854775807 ≤ st.snk.room + 1
  r2 : st.snk.room ≤ 9223372036854775807
  len : st.snk.got.length + st.buf.length ≤ 140737488355328

/-- What a writer is behind the writing of x, which came without an error before it: all is in the sink or the buffer, in order; or the sink is full, and has the beginning alone. -/
structure Wr.Step (a : Wr) (x : List UInt8) (b : Wr) : Prop where
  size : b.size = a.size
  ok : b.Ok
  room : b.snk.room + b.snk.got.length = a.snk.room + a.snk.got.length
  low : b.snk.room = a.snk.room ∨ 0 ≤ b.snk.room
  len : b.snk.got.length + b.buf.length ≤ a.snk.got.length + a.buf.length + x.length
  all : b.err = false → b.snk.got ++ b.buf = a.snk.got ++ a.buf ++ x
  cut : b.err = true → b.snk.room ≤ 0 ∧ b.snk.got.length < (a.snk.got ++ a.buf ++ x).length ∧ b.snk.got = (a.snk.got ++ a.buf ++ x).take b.snk.got.length
  grow : a.snk.got.length ≤ b.snk.got.length

theorem Wr.Step.refl {a : Wr} (h : a.Ok) (he : a.err = false) : a.Step [] a :=
  ⟨rfl, h, rfl, .inl rfl, by simp, fun _ => by simp, (fun e => by rw [he] at e; cases e), Nat.le_refl _⟩

theorem Wr.Step.trans {a b c : Wr} {x y : List UInt8} (h : a.Step x b) (he : b.err = false) (k : b.Step y c) : a.Step (x ++ y) c := by
  have e : b.snk.got ++ b.buf ++ y = a.snk.got ++ a.buf ++ (x ++ y) := by rw [h.all he]; simp
  have h1 := h.room; have h2 := k.room; have h3 := h.low; have h4 := k.low; have h5 := h.len; have h6 := k.len; have h7 := h.grow; have h8 := k.grow
  refine ⟨k.size.trans h.size, k.ok, by omega, ?_, by simp; omega, fun e' => by rw [k.all e', e], fun e' => ?_, by omega⟩
  · rcases h4 with h4 | h4
    · rcases h3 with h3 | h3
      · left; omega
      · right; omega
    · right; exact h4
  · have := k.cut e'
    rw [e] at this
    exact this

/-- Behind an error, more that was to be written changes nothing. -/
theorem Wr.Step.more {a b : Wr} {x : List UInt8} (h : a.Step x b) (he : b.err = true) (y : List UInt8) : a.Step (x ++ y) b := by
  have hc := h.cut he
  refine ⟨h.size, h.ok, h.room, h.low, by have := h.len; simp; omega, (fun e => by rw [he] at e; cases e), fun _ => ⟨hc.1, ?_, ?_⟩, h.grow⟩
  · have := hc.2.1; simp at this ⊢; omega
  · have e : a.snk.got ++ a.buf ++ (x ++ y) = (a.snk.got ++ a.buf ++ x) ++ y := by simp
    rw [e, List.take_append_of_le_length (by omega)]
    exact hc.2.2

theorem Wr.Fits.step {a b : Wr} {x : List UInt8} (h : a.Fits) (k : a.Step x b) (hl : a.snk.got.length + a.buf.length + x.length ≤ 140737488355328) : b.Fits := by
  have h1 := h.r1; have h2 := h.r2; have h3 := k.room; have h4 := k.low; have h5 := k.len; have h6 := k.grow
  exact ⟨k.ok, by omega, by omega, by omega⟩

theorem Snk.fits_le (s : Snk) (k : Nat) : s.fits k ≤ k := by unfold Snk.fits; omega

theorem Snk.put_length (s : Snk) (p : List UInt8) : (s.put p).got.length = s.got.length + s.fits p.length := by
  have := s.fits_le p.length
  simp [Snk.put]; omega

/-- The sink behind a writing, told for all that is written. -/
theorem Snk.put_facts (s : Snk) (p : List UInt8) : (s.put p).room + (s.put p).got.length = s.room + s.got.length ∧ ((s.put p).room = s.room ∨ 0 ≤ (s.put p).room) ∧
    (s.fits p.length < p.length → (s.put p).room ≤ 0) ∧ (s.fits p.length = p.length → (s.put p).got = s.got ++ p) := by
  have h1 := s.put_length p
  refine ⟨?_, ?_, ?_, ?_⟩
  · rw [h1]; simp [Snk.put]; omega
  · simp only [Snk.put]; unfold Snk.fits; omega
  · intro h; simp only [Snk.put]; unfold Snk.fits at h ⊢; omega
  · intro h; simp [Snk.put, h]

theorem Wr.flush_step {a : Wr} (h : a.Ok) (he : a.err = false) : a.Step [] a.flush ∧ (a.flush.err = false → a.flush.buf = []) := by
  by_cases hb : a.buf = []
  · have e : a.flush = a := by unfold Wr.flush; simp [hb]
    rw [e]
    exact ⟨Wr.Step.refl h he, fun _ => hb⟩
  · have e : a.flush = { a with snk := a.snk.put a.buf, buf := a.buf.drop (a.snk.fits a.buf.length), err := decide (a.snk.fits a.buf.length < a.buf.length) } := by
      unfold Wr.flush; simp [hb, he]
    have hf := a.snk.fits_le a.buf.length
    obtain ⟨p1, p2, p3, p4⟩ := a.snk.put_facts a.buf
    have p5 := a.snk.put_length a.buf
    have h2 := h.buf
    rw [e]
    refine ⟨⟨rfl, ⟨h.size, by simp; omega⟩, p1, p2, by simp only [List.length_drop, List.length_nil, p5]; omega, fun e' => ?_, fun e' => ?_, by simp only [p5]; omega⟩, fun e' => ?_⟩
    · have : a.snk.fits a.buf.length = a.buf.length := by simp at e'; omega
      simp only [p4 this, this]
      simp
    · have hlt : a.snk.fits a.buf.length < a.buf.length := by simpa using e'
      refine ⟨p3 hlt, by simp only [p5]; simp; omega, ?_⟩
      simp only [p5, List.append_nil]
      rw [List.take_append, List.take_of_length_le (by omega)]
      simp [Snk.put]
    · have : a.snk.fits a.buf.length = a.buf.length := by simp at e'; omega
      simp [this]

/-- Bytes laid into the buffer. -/
theorem Wr.fill_step {a : Wr} (h : a.Ok) (he : a.err = false) (x : List UInt8) (hx : x.length ≤ a.avail) : a.Step x { a with buf := a.buf ++ x } := by
  have h1 := h.buf
  unfold Wr.avail at hx
  exact ⟨rfl, ⟨h.size, by simp; omega⟩, rfl, .inl rfl, by simp; omega, fun _ => by simp, (fun e => by rw [show ({ a with buf := a.buf ++ x } : Wr).err = a.err from rfl, he] at e; cases e), Nat.le_refl _⟩

/-- A direct writing, the buffer empty. -/
theorem Wr.direct_step {a : Wr} (h : a.Ok) (hb : a.buf = []) (p : List UInt8) :
    a.Step (p.take (a.snk.fits p.length)) { a with snk := a.snk.put p, err := false } ∧ a.Step p { a with snk := a.snk.put p, err := decide (a.snk.fits p.length < p.length) } := by
  have hf := a.snk.fits_le p.length
  obtain ⟨p1, p2, p3, p4⟩ := a.snk.put_facts p
  have p5 := a.snk.put_length p
  refine ⟨⟨rfl, ⟨h.size, h.buf⟩, p1, p2, by simp only [p5, List.length_take]; omega, fun _ => by simp [hb, Snk.put], (fun e => by cases e), by simp only [p5]; omega⟩,
    ⟨rfl, ⟨h.size, h.buf⟩, p1, p2, by simp only [p5]; omega, fun e => ?_, fun e => ?_, by simp only [p5]; omega⟩⟩
  · have : a.snk.fits p.length = p.length := by simp at e; omega
    simp [hb, p4 this]
  · have hlt : a.snk.fits p.length < p.length := by simpa using e
    refine ⟨p3 hlt, by simp only [p5]; simp; omega, ?_⟩
    simp only [p5, hb, List.append_nil]
    rw [List.take_append, List.take_of_length_le (by omega)]
    simp [Snk.put]

/-- What Write and its kin say: how many bytes were taken, and the writer behind. -/
def Wr.Wrote (a : Wr) (x : List UInt8) (n : Nat) (b : Wr) : Prop :=
  if a.err then n = 0 ∧ b = a else n ≤ x.length ∧ (b.err = false → n = x.length) ∧ a.Step x b

end Go.Proofs.YtfigpbcmnlkdjaaDoor
