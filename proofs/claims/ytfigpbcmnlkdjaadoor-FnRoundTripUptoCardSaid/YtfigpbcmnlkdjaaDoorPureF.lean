/-
  ReadBytes of the plain reader by its fragments, and many calls of it with one delimiter. No program in sight.
-/
import Derived.Test.YtfigpbcmnlkdjaaDoorPureL
import Derived.Test.YtfigpbcmnlkdjaaDoorPureW2
namespace Go.Proofs.YtfigpbcmnlkdjaaDoor

/-- What collectFragments gives: the reader, the full buffers, the last fragment, the error. -/
def Rd.frags (d : UInt8) : Nat → Rd → Rd × List (List UInt8) × List UInt8 × Er
  | 0, b => (b, [], [], erNone)
  | k + 1, b =>
    let x := b.readSlice d
    if x.2.2 = erFull then
      let y := Rd.frags d k x.1
      (y.1, x.2.1 :: y.2.1, y.2.2.1, y.2.2.2)
    else (x.1, [], x.2.1, x.2.2)

theorem Rd.collect_frags (d : UInt8) : ∀ (k : Nat) (b : Rd), Rd.collect d k b = ((Rd.frags d k b).1, joined (Rd.frags d k b).2.1 ++ (Rd.frags d k b).2.2.1, (Rd.frags d k b).2.2.2) := by
  intro k
  induction k with
  | zero => intro b; simp [Rd.collect, Rd.frags, joined]
  | succ k ih =>
    intro b
    unfold Rd.collect Rd.frags
    simp only []
    by_cases he : (b.readSlice d).2.2 = erFull
    · rw [if_pos he, if_pos he, ih]
      simp [joined]
    · rw [if_neg he, if_neg he]
      simp [joined]

theorem Rd.frags_full {d : UInt8} {k : Nat} {b : Rd} (h : (b.readSlice d).2.2 = erFull) : Rd.frags d (k + 1) b = ((Rd.frags d k (b.readSlice d).1).1, (b.readSlice d).2.1 :: (Rd.frags d k (b.readSlice d).1).2.1, (Rd.frags d k (b.readSlice d).1).2.2.1, (Rd.frags d k (b.readSlice d).1).2.2.2) := by
  show (let x := b.readSlice d; if x.2.2 = erFull then _ else _) = _
  simp only []
  rw [if_pos h]
theorem Rd.frags_last {d : UInt8} {k : Nat} {b : Rd} (h : ¬ (b.readSlice d).2.2 = erFull) : Rd.frags d (k + 1) b = ((b.readSlice d).1, [], (b.readSlice d).2.1, (b.readSlice d).2.2) := by
  show (let x := b.readSlice d; if x.2.2 = erFull then _ else _) = _
  simp only []
  rw [if_neg h]

theorem joined_snoc (ps : List (List UInt8)) (p : List UInt8) : joined (ps ++ [p]) = joined ps ++ p := by simp [joined]

/-- How many full buffers are wanted for what is left. -/
def Rd.fuel (b : Rd) : Nat := b.todo.length / b.size + 1
theorem Rd.fuel_lt {b : Rd} (h : b.Ok) : b.todo.length < b.fuel * b.size := by
  have hs := h.size
  unfold Rd.fuel
  have := Nat.div_add_mod b.todo.length b.size
  have h2 := Nat.mod_lt b.todo.length (show 0 < b.size by omega)
  rw [Nat.succ_mul, Nat.mul_comm]
  omega

/-- ReadBytes. -/
def Rd.readBytes (b : Rd) (d : UInt8) : Rd × List UInt8 × Er := Rd.collect d b.fuel b

theorem Rd.readBytes_on {b : Rd} (h : b.Fit) (d : UInt8) : b.BytesOn d (b.readBytes d).1 (b.readBytes d).2.1 (b.readBytes d).2.2 :=
  Rd.collect_on d b.fuel b h (Rd.fuel_lt h.ok)

/-- Many calls of ReadBytes: the reader, the bytes and errors. -/
def Rd.manyB : List UInt8 → Rd → Rd × List (List UInt8 × Er)
  | [], b => (b, [])
  | d :: ds, b =>
    let x := b.readBytes d
    let y := Rd.manyB ds x.1
    (y.1, (x.2.1, x.2.2) :: y.2)

theorem Rd.manyB_length (ds : List UInt8) : ∀ b : Rd, (Rd.manyB ds b).2.length = ds.length := by
  induction ds with
  | nil => intro b; rfl
  | cons d ds ih => intro b; simp [Rd.manyB, ih]

theorem Rd.manyB_snoc (ds : List UInt8) (d : UInt8) : ∀ b : Rd, Rd.manyB (ds ++ [d]) b = (((Rd.manyB ds b).1.readBytes d).1, (Rd.manyB ds b).2 ++ [(((Rd.manyB ds b).1.readBytes d).2.1, ((Rd.manyB ds b).1.readBytes d).2.2)]) := by
  induction ds with
  | nil => intro b; simp [Rd.manyB]
  | cons c ds ih => intro b; simp [Rd.manyB, ih]

theorem Rd.manyB_fit (ds : List UInt8) : ∀ b : Rd, b.Fit → ∃ n, b.On (Rd.manyB ds b).1 n := by
  induction ds with
  | nil => intro b h; exact ⟨0, h, Rd.Same.refl _, rfl⟩
  | cons d ds ih =>
    intro b h
    have h1 := (Rd.readBytes_on h d).on
    obtain ⟨n, h2⟩ := ih _ h1.fit
    exact ⟨_, h1.trans h2⟩

theorem upTo_append_drop (d : UInt8) (l : List UInt8) : upTo d l ++ l.drop (upTo d l).length = l := by
  unfold upTo
  by_cases h : d ∈ l
  · rw [if_pos h]
    have hi := List.idxOf_lt_length_of_mem h
    rw [List.length_take, Nat.min_eq_left (by omega), List.take_append_drop]
  · rw [if_neg h]; simp

theorem upTo_pos (d : UInt8) (l : List UInt8) (h : l ≠ []) : 0 < (upTo d l).length := by
  unfold upTo
  have : 0 < l.length := List.length_pos_iff.2 h
  split
  · rw [List.length_take]; omega
  · exact this

/-- All data come back, and behind them the end. -/
theorem Rd.manyB_all (d : UInt8) : ∀ (n : Nat) (b : Rd), b.Fit → b.todo.length ≤ n → joined ((Rd.manyB (List.replicate (n + 1) d) b).2.map (·.1)) = b.todo ∧ ((Rd.manyB (List.replicate (n + 1) d) b).2[n]?).map (·.2) = some erEnds := by
  intro n
  induction n with
  | zero =>
    intro b h hn
    have e : b.todo = [] := List.eq_nil_of_length_eq_zero (by omega)
    have hb := Rd.readBytes_on h d
    have h1 := hb.bytes
    have h2 := hb.err
    rw [e] at h1 h2
    simp only [Nat.zero_add, List.replicate_one, Rd.manyB, List.map_cons, List.map_nil, List.getElem?_cons_zero, Option.map_some]
    rw [h1, h2, e]
    simp [joined, upTo]
  | succ n ih =>
    intro b h hn
    have hb := Rd.readBytes_on h d
    have h1 := hb.bytes
    have htd := hb.on.todo
    have hle : (b.readBytes d).1.todo.length ≤ n := by
      rw [htd, List.length_drop, h1]
      by_cases e : b.todo = []
      · rw [e]; simp
      · have := upTo_pos d b.todo e
        omega
    obtain ⟨i1, i2⟩ := ih _ hb.on.fit hle
    rw [List.replicate_succ]
    simp only [Rd.manyB, List.map_cons, List.getElem?_cons_succ]
    refine ⟨?_, i2⟩
    have e1 : joined ((b.readBytes d).2.1 :: ((Rd.manyB (List.replicate (n + 1) d) (b.readBytes d).1).2.map (·.1))) = (b.readBytes d).2.1 ++ joined ((Rd.manyB (List.replicate (n + 1) d) (b.readBytes d).1).2.map (·.1)) := by simp [joined]
    rw [e1, i1, htd, h1]
    exact upTo_append_drop d b.todo
end Go.Proofs.YtfigpbcmnlkdjaaDoor
