/-
  The reader as a plain function: a source in pieces, a buffered reader over it, and what its calls return. No program in sight.
-/
namespace Go.Proofs.YtfigpbcmnlkdjaaDoor

/-- A source that is being read: its data, the lengths of its pieces, whether its end is io.EOF, whether the end comes with the last bytes; how much is read, which piece is next, how much is left of the piece. -/
structure Src where
  data : List UInt8
  cuts : List Int
  eof : Bool
  wth : Bool
  pos : Nat
  piece : Nat
  left : Nat

/-- The next piece. -/
def Src.nx (s : Src) : Src :=
  { s with
    left := if s.piece < s.cuts.length then min (s.data.length - s.pos) (max 1 (s.cuts.getD s.piece 0)).toNat else s.data.length - s.pos
    piece := s.piece + 1 }

def Src.start (data : List UInt8) (cuts : List Int) (eof wth : Bool) : Src := Src.nx ⟨data, cuts, eof, wth, 0, 0, 0⟩

structure Src.Ok (s : Src) : Prop where
  pos : s.pos ≤ s.data.length
  left : s.left ≤ s.data.length - s.pos
  some : s.pos < s.data.length → 0 < s.left
  piece : s.piece ≤ s.pos + 1

theorem Src.nx_ok {s : Src} (h : s.pos ≤ s.data.length) (hp : s.piece ≤ s.pos) : s.nx.Ok := by
  constructor <;> simp only [Src.nx]
  · exact h
  · split <;> omega
  · intro hlt
    split <;> omega
  · omega

theorem Src.start_ok (data : List UInt8) (cuts : List Int) (eof wth : Bool) : (Src.start data cuts eof wth).Ok :=
  Src.nx_ok (Nat.zero_le _) (Nat.le_refl _)

/-- The source behind a reading of n bytes of its piece. -/
def Src.adv (s : Src) (n : Nat) : Src :=
  let s1 : Src := { s with pos := s.pos + n, left := s.left - n }
  if s.left - n = 0 then s1.nx else s1

/-- How many bytes a reading of m bytes gives. -/
def Src.gives (s : Src) (m : Nat) : Nat := if s.pos = s.data.length then 0 else min m s.left
/-- Whether an error comes with n bytes. -/
def Src.ends (s : Src) (n : Nat) : Bool := if s.pos = s.data.length then true else decide (s.pos + n = s.data.length) && s.wth
def Src.after (s : Src) (m : Nat) : Src := if s.pos = s.data.length then s else s.adv (min m s.left)
def Src.bytes (s : Src) (m : Nat) : List UInt8 := (s.data.drop s.pos).take (s.gives m)

theorem Src.adv_data (s : Src) (n : Nat) : (s.adv n).data = s.data := by simp only [Src.adv, Src.nx]; split <;> rfl
theorem Src.adv_cuts (s : Src) (n : Nat) : (s.adv n).cuts = s.cuts := by simp only [Src.adv, Src.nx]; split <;> rfl
theorem Src.adv_eof (s : Src) (n : Nat) : (s.adv n).eof = s.eof := by simp only [Src.adv, Src.nx]; split <;> rfl
theorem Src.adv_wth (s : Src) (n : Nat) : (s.adv n).wth = s.wth := by simp only [Src.adv, Src.nx]; split <;> rfl
theorem Src.adv_pos (s : Src) (n : Nat) : (s.adv n).pos = s.pos + n := by simp only [Src.adv, Src.nx]; split <;> rfl
theorem Src.after_data (s : Src) (n : Nat) : (s.after n).data = s.data := by unfold Src.after; split; rfl; exact s.adv_data _
theorem Src.after_cuts (s : Src) (n : Nat) : (s.after n).cuts = s.cuts := by unfold Src.after; split; rfl; exact s.adv_cuts _
theorem Src.after_eof (s : Src) (n : Nat) : (s.after n).eof = s.eof := by unfold Src.after; split; rfl; exact s.adv_eof _
theorem Src.after_wth (s : Src) (n : Nat) : (s.after n).wth = s.wth := by unfold Src.after; split; rfl; exact s.adv_wth _
theorem Src.after_pos (s : Src) (m : Nat) : (s.after m).pos = s.pos + s.gives m := by
  unfold Src.after Src.gives; split; rfl; exact s.adv_pos _

theorem Src.adv_ok {s : Src} (h : s.Ok) (n : Nat) (hn : n ≤ s.left) (h0 : 0 < n) : (s.adv n).Ok := by
  have h1 := h.pos; have h2 := h.left; have h3 := h.piece
  unfold Src.adv
  by_cases e : s.left - n = 0
  · simp only [e, if_true]
    apply Src.nx_ok <;> simp only <;> omega
  · simp only [e, if_false]
    constructor <;> simp only <;> omega

theorem Src.after_ok {s : Src} (h : s.Ok) (m : Nat) (h0 : 0 < m) : (s.after m).Ok := by
  unfold Src.after
  split
  · exact h
  · have h1 := h.pos; have h2 := h.some (by omega)
    exact Src.adv_ok h _ (by omega) (by omega)

theorem Src.gives_le {s : Src} (h : s.Ok) (m : Nat) : s.gives m ≤ m ∧ s.pos + s.gives m ≤ s.data.length := by
  have h1 := h.pos; have h2 := h.left
  unfold Src.gives; split <;> omega

theorem Src.bytes_length {s : Src} (h : s.Ok) (m : Nat) : (s.bytes m).length = s.gives m := by
  have := Src.gives_le h m
  simp [Src.bytes]; omega

/-- A reading of at least one byte gives a byte or the end. -/
theorem Src.gives_pos {s : Src} (h : s.Ok) {m : Nat} (h0 : 0 < m) : 0 < s.gives m ∨ s.ends (s.gives m) = true ∧ s.pos = s.data.length := by
  have h1 := h.pos
  unfold Src.gives Src.ends
  split
  · right; exact ⟨rfl, by assumption⟩
  · left; have := h.some (by omega); omega

/-- A reader: its source, the size of its buffer, what is in the buffer up to w, the place r up to which it is read, whether an error waits, the last byte, the size of the last rune. -/
structure Rd where
  src : Src
  size : Nat
  buf : List UInt8
  r : Nat
  err : Bool
  lb : Int
  lr : Int

def Rd.fresh (s : Src) (size : Nat) : Rd := ⟨s, size, [], 0, false, -1, -1⟩

def Rd.avail (b : Rd) : Nat := b.buf.length - b.r
def Rd.rest (b : Rd) : List UInt8 := b.buf.drop b.r

structure Rd.Ok (b : Rd) : Prop where
  src : b.src.Ok
  size : 16 ≤ b.size ∧ b.size ≤ 32767
  r : b.r ≤ b.buf.length
  w : b.buf.length ≤ b.size
  err : b.err = true → b.src.pos = b.src.data.length
  lb : -1 ≤ b.lb ∧ b.lb ≤ 255
  lr : -1 ≤ b.lr ∧ b.lr ≤ 4

theorem Rd.rest_length (b : Rd) : b.rest.length = b.avail := by simp [Rd.rest, Rd.avail]

/-- A new chunk is read into the buffer. -/
def Rd.fill (b : Rd) : Rd :=
  { b with src := b.src.after (b.size - b.avail), buf := b.rest ++ b.src.bytes (b.size - b.avail), r := 0, err := b.err || b.src.ends (b.src.gives (b.size - b.avail)) }

theorem Rd.fill_ok {b : Rd} (h : b.Ok) (hf : b.avail < b.size) : b.fill.Ok := by
  have h1 := Src.gives_le h.src (b.size - b.avail)
  have h2 := h.src.pos
  constructor <;> simp only [Rd.fill]
  · exact Src.after_ok h.src _ (by omega)
  · exact h.size
  · omega
  · rw [List.length_append, Rd.rest_length, Src.bytes_length h.src]; omega
  · intro he
    rw [Src.after_pos, Src.after_data]
    rw [Bool.or_eq_true] at he
    rcases he with he | he
    · have := h.err he
      unfold Src.gives; rw [if_pos this]; omega
    · unfold Src.ends at he
      split at he
      · unfold Src.gives; rw [if_pos (by assumption)]; omega
      · simp at he; exact he.1
  · exact h.lb
  · exact h.lr

/-- How often the buffer can still be filled. -/
def Rd.more (b : Rd) : Nat := (b.src.data.length - b.src.pos) + (if b.err then 0 else 1)

theorem Rd.fill_more {b : Rd} (h : b.Ok) (hf : b.avail < b.size) (he : b.err = false) : b.fill.more < b.more := by
  have h1 := Src.gives_pos h.src (m := b.size - b.avail) (by omega)
  have h2 := Src.gives_le h.src (b.size - b.avail)
  simp only [Rd.more, Rd.fill, he, Bool.false_or, Src.after_pos, Src.after_data]
  rcases h1 with h1 | ⟨h1, h3⟩
  · split <;> simp <;> omega
  · rw [h1]; simp; omega

/-- The buffer is filled as long as a test says so, at most k times. -/
def Rd.fills (go : Rd → Bool) : Nat → Rd → Rd
  | 0, b => b
  | k + 1, b => if go b then Rd.fills go k b.fill else b

/-- readErr. -/
def Rd.clear (b : Rd) : Rd := { b with err := false }

def Rd.peekGo (n : Nat) (b : Rd) : Bool := decide (b.avail < n) && decide (b.avail < b.size) && !b.err
/-- What an error is, as a number: none, the end of the source, or one of bufio's. -/
abbrev Er := Nat
def erNone : Er := 0
def erEnds : Er := 1
def erFull : Er := 3
def erNeg : Er := 4
def erByte : Er := 5
def erRune : Er := 6

/-- Peek of a number that is not negative: the reader behind it, the bytes, the error. -/
def Rd.peek (b : Rd) (n : Nat) : Rd × List UInt8 × Er :=
  let b1 := Rd.fills (Rd.peekGo n) b.more { b with lb := -1, lr := -1 }
  if b1.size < n then (b1, b1.rest, erFull)
  else if b1.avail < n then (b1.clear, b1.rest, if b1.err then erEnds else erFull)
  else (b1, b1.rest.take n, erNone)

/-- The loop of Discard: how many are still to be skipped in the end, and the reader. -/
def Rd.skip : Nat → Rd → Nat → Nat × Rd
  | 0, b, n => (n, b)
  | k + 1, b, n =>
    let b1 := if b.avail = 0 then b.fill else b
    let b2 := { b1 with r := b1.r + min b1.avail n }
    if n - min b1.avail n = 0 then (0, b2)
    else if b2.err then (n - min b1.avail n, b2)
    else Rd.skip k b2 (n - min b1.avail n)

def Rd.discard (b : Rd) (n : Nat) : Rd × Nat × Er :=
  if n = 0 then (b, 0, erNone)
  else
    let x := Rd.skip (b.more + 1) { b with lb := -1, lr := -1 } n
    if x.1 = 0 then (x.2, n, erNone) else (x.2.clear, n - x.1, erEnds)

def lastOf (l : List UInt8) (d : Int) : Int := match l.getLast? with | some x => x.toNat | none => d

/-- Bytes out of the buffer for Read. -/
def Rd.give (b : Rd) (n : Nat) : Rd × List UInt8 × Er :=
  ({ b with r := b.r + min n b.avail, lb := lastOf (b.rest.take n) b.lb, lr := -1 }, b.rest.take n, erNone)

def Rd.read (b : Rd) (n : Nat) : Rd × List UInt8 × Er :=
  if n = 0 then (if 0 < b.avail then (b, [], erNone) else (b.clear, [], if b.err then erEnds else erNone))
  else if b.avail = 0 then
    if b.err then (b.clear, [], erEnds)
    else if b.size ≤ n then
      ({ b with src := b.src.after n, lb := lastOf (b.src.bytes n) b.lb, lr := if b.src.gives n = 0 then b.lr else -1 }, b.src.bytes n, if b.src.ends (b.src.gives n) then erEnds else erNone)
    else if b.src.gives b.size = 0 then
      ({ b with src := b.src.after b.size, buf := [], r := 0 }, [], if b.src.ends (b.src.gives b.size) then erEnds else erNone)
    else Rd.give { b with src := b.src.after b.size, buf := b.src.bytes b.size, r := 0, err := b.src.ends (b.src.gives b.size) } n
  else b.give n

def Rd.byteGo (b : Rd) : Bool := decide (b.avail = 0) && !b.err
def Rd.readByte (b : Rd) : Rd × UInt8 × Er :=
  let b1 := Rd.fills Rd.byteGo b.more { b with lr := -1 }
  match b1.rest with
  | [] => (b1.clear, 0, erEnds)
  | c :: _ => ({ b1 with r := b1.r + 1, lb := c.toNat }, c, erNone)

def Rd.unreadByte (b : Rd) : Rd × Er :=
  if b.lb < 0 ∨ b.r = 0 ∧ 0 < b.buf.length then (b, erByte)
  else if 0 < b.r then ({ b with r := b.r - 1, buf := b.buf.set (b.r - 1) (UInt8.ofNat b.lb.toNat), lb := -1, lr := -1 }, erNone)
  else ({ b with buf := [UInt8.ofNat b.lb.toNat], lb := -1, lr := -1 }, erNone)

def Rd.unreadRune (b : Rd) : Rd × Er :=
  if b.lr < 0 ∨ (b.r : Int) < b.lr then (b, erRune)
  else ({ b with r := b.r - b.lr.toNat, lb := -1, lr := -1 }, erNone)

/-- ReadSlice. -/
def Rd.sliceGo (d : UInt8) (b : Rd) : Bool := !(b.rest.contains d) && !b.err && decide (b.avail < b.size)
def Rd.readSlice (b : Rd) (d : UInt8) : Rd × List UInt8 × Er :=
  let b1 := Rd.fills (Rd.sliceGo d) b.more b
  if b1.rest.contains d then
    let line := b1.rest.take (b1.rest.idxOf d + 1)
    ({ b1 with r := b1.r + line.length, lb := d.toNat, lr := -1 }, line, erNone)
  else if b1.err then
    ({ b1 with r := b1.buf.length, err := false, lb := lastOf b1.rest b1.lb, lr := if b1.avail = 0 then b1.lr else -1 }, b1.rest, erEnds)
  else ({ b1 with r := b1.buf.length, lb := lastOf b1.rest b1.lb, lr := -1 }, b1.rest, erFull)

/-- ReadLine: the reader, the line, whether more of it is to come, the error. -/
def Rd.readLine (b : Rd) : Rd × List UInt8 × Bool × Er :=
  let x := b.readSlice 10
  if x.2.2 = erFull then
    if x.2.1.getLast? = some 13 then ({ x.1 with r := x.1.r - 1 }, x.2.1.dropLast, true, erNone) else (x.1, x.2.1, true, erNone)
  else if x.2.1.isEmpty then (x.1, [], false, x.2.2)
  else if x.2.1.getLast? = some 10 then
    (x.1, if x.2.1.dropLast.getLast? = some 13 then x.2.1.dropLast.dropLast else x.2.1.dropLast, false, erNone)
  else (x.1, x.2.1, false, erNone)

/-- ReadBytes and ReadString: at most k full buffers, then the rest. -/
def Rd.collect (d : UInt8) : Nat → Rd → Rd × List UInt8 × Er
  | 0, b => (b, [], erNone)
  | k + 1, b =>
    let x := b.readSlice d
    if x.2.2 = erFull then
      let y := Rd.collect d k x.1
      (y.1, x.2.1 ++ y.2.1, y.2.2)
    else x

end Go.Proofs.YtfigpbcmnlkdjaaDoor
