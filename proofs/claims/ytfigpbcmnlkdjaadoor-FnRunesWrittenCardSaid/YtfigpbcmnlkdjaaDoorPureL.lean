/-
  ReadSlice, ReadBytes and ReadLine of the plain reader, told by the data that are left. No program in sight.
-/
import Derived.Test.YtfigpbcmnlkdjaaDoorPureK
namespace Go.Proofs.YtfigpbcmnlkdjaaDoor

/-- What ReadSlice gives. -/
structure Rd.SliceOn (b : Rd) (d : UInt8) (c : Rd) (x : List UInt8) (e : Er) : Prop where
  on : b.On c x.length
  bytes : x = b.todo.take x.length
  kind : (e = erNone ∧ d ∈ b.todo ∧ b.todo.idxOf d < b.size ∧ x.length = b.todo.idxOf d + 1) ∨ (e = erFull ∧ d ∉ b.todo.take b.size ∧ x.length = b.size) ∨ (e = erEnds ∧ d ∉ b.todo ∧ x.length = b.todo.length ∧ x.length ≤ b.size)
  last : x ≠ [] → c.lb = lastOf x (-1) ∧ c.lr = -1 ∧ 0 < c.r
  keep : x = [] → c.lb = b.lb ∧ c.lr = b.lr
  whole : e ≠ erNone → c.r = c.buf.length

theorem idxOf_append_mem {l m : List UInt8} {d : UInt8} (h : d ∈ l) : (l ++ m).idxOf d = l.idxOf d := by
  induction l with
  | nil => simp at h
  | cons x r ih =>
    rw [List.cons_append, List.idxOf_cons, List.idxOf_cons]
    by_cases e : (x == d) = true
    · rw [e]; rfl
    · have : d ∈ r := by
        rcases List.mem_cons.1 h with h | h
        · subst h; simp at e
        · exact h
      rw [ih this]

theorem lastOf_snoc (l : List UInt8) (x : UInt8) (d : Int) : lastOf (l ++ [x]) d = x.toNat := by simp [lastOf]

theorem take_idxOf {l : List UInt8} {d : UInt8} (h : d ∈ l) : l.take (l.idxOf d + 1) = l.take (l.idxOf d) ++ [d] := by
  have hi := List.idxOf_lt_length_of_mem h
  rw [List.take_succ_eq_append_getElem hi]
  congr 2
  have := List.getElem_idxOf hi
  exact this

theorem Rd.readSlice_on {b : Rd} (h : b.Fit) (d : UInt8) : b.SliceOn d (b.readSlice d).1 (b.readSlice d).2.1 (b.readSlice d).2.2 := by
  have hf := Rd.fills_fit (Rd.sliceGo_modest d) b.more _ h
  have hl := (Rd.fills_ok (Rd.sliceGo_modest d) b.more _ h.ok).2
  have hd := Rd.fills_done (Rd.sliceGo_modest d) b.more _ h.ok (Nat.le_refl _)
  unfold Rd.readSlice
  generalize Rd.fills (Rd.sliceGo d) b.more b = b1 at hf hl hd
  obtain ⟨hf1, hc1⟩ := hf
  have ht : b1.todo = b.todo := by unfold Rd.todo; rw [hl.data, hc1]
  have hsame : b.Same b1 := hl.same
  have hte := hf1.todo_eq
  have htl := hf1.todo_length
  have hrl := b1.rest_length
  have hw := hf1.ok.w
  have hr := hf1.ok.r
  have hav : b1.avail = b1.buf.length - b1.r := rfl
  rw [ht] at hte htl
  have hsz := hl.size
  simp only []
  by_cases hc : b1.rest.contains d = true
  · rw [if_pos hc]
    have hm : d ∈ b1.rest := by simpa using hc
    have hi := List.idxOf_lt_length_of_mem hm
    have hti : b.todo.idxOf d = b1.rest.idxOf d := by rw [hte]; exact idxOf_append_mem hm
    have hlen : (b1.rest.take (b1.rest.idxOf d + 1)).length = b1.rest.idxOf d + 1 := by simp; omega
    have hb := d.toNat_lt
    have hs := hf1.step (b1.rest.idxOf d + 1) (by omega) d.toNat (-1) (by omega) (by omega)
    simp only [hlen]
    refine ⟨by simp only [hlen]; exact ⟨hs.fit, hsame.trans hs.same, by rw [hs.cur, hc1]⟩, ?_, .inl ⟨rfl, ?_, by rw [hti]; omega, by rw [hti, hlen]⟩, fun _ => ⟨?_, rfl, by simp only; omega⟩, fun e => ?_, fun e => absurd rfl e⟩
    · rw [hlen, hte, List.take_append_of_le_length (by omega)]
    · rw [hte]; exact List.mem_append_left _ hm
    · simp only; rw [take_idxOf hm, lastOf_snoc]
    · rw [e] at hlen; simp at hlen
  · rw [if_neg hc]
    have hm : d ∉ b1.rest := by simpa using hc
    have hlb := lastOf_bounds b1.rest b1.lb hf1.ok.lb
    have hlr := hf1.ok.lr
    by_cases he : b1.err = true
    · rw [if_pos he]
      have hp := hf1.ok.err he
      have hrt := hf1.rest_all hp
      rw [ht] at hrt
      have hs := hf1.step b1.avail (Nat.le_refl _) (lastOf b1.rest b1.lb) (if b1.avail = 0 then b1.lr else -1) hlb (by split <;> omega)
      have er : b1.r + b1.avail = b1.buf.length := by omega
      rw [er] at hs
      refine ⟨?_, by simp only [hrl, ← hrt]; rw [← hrl, List.take_length], .inr (.inr ⟨rfl, by rw [← hrt]; exact hm, by simp only [hrt], by simp only [hrl]; omega⟩), fun hne => ⟨lastOf_some _ _ _ hne, ?_, ?_⟩, fun e => ⟨?_, ?_⟩, fun _ => rfl⟩
      · simp only [hrl]
        exact ⟨hs.fit.clear, hsame.trans ⟨hs.same.data, hs.same.cuts, hs.same.eof, hs.same.wth, hs.same.size⟩, by have := hs.cur; rw [← hc1]; exact this⟩
      · have : b1.avail ≠ 0 := fun e => hne (List.eq_nil_of_length_eq_zero (by rw [hrl, e]))
        simp [this]
      · have : b1.avail ≠ 0 := fun e => hne (List.eq_nil_of_length_eq_zero (by rw [hrl, e]))
        show 0 < b1.buf.length; omega
      · simp only at e ⊢; rw [e, ← hl.lb]; rfl
      · simp only at e ⊢
        have : b1.avail = 0 := by rw [← hrl, e]; rfl
        rw [if_pos this, hl.lr]
    · rw [if_neg he]
      have hfull : b1.avail = b1.size := by
        simp [Rd.sliceGo, hm, he] at hd
        omega
      have hs := hf1.step b1.avail (Nat.le_refl _) (lastOf b1.rest b1.lb) (-1) hlb (by omega)
      have er : b1.r + b1.avail = b1.buf.length := by omega
      rw [er] at hs
      have h1 := hf1.ok.size
      have hrt : b1.rest = b.todo.take b.size := by rw [hf1.rest, ht, hfull, hsz]
      refine ⟨?_, by simp only [hrl]; rw [← ht]; exact hf1.rest, .inr (.inl ⟨rfl, by rw [← hrt]; exact hm, by simp only [hrl]; omega⟩), fun hne => ⟨lastOf_some _ _ _ hne, rfl, by show 0 < b1.buf.length; omega⟩, fun e => ?_, fun _ => rfl⟩
      · simp only [hrl]
        exact ⟨hs.fit, hsame.trans hs.same, by rw [hs.cur, hc1]⟩
      · simp only at e; rw [e] at hrl; simp at hrl; omega

/-- What ReadBytes gives of what is left. -/
def upTo (d : UInt8) (l : List UInt8) : List UInt8 := if d ∈ l then l.take (l.idxOf d + 1) else l

/-- What ReadBytes gives. -/
structure Rd.BytesOn (b : Rd) (d : UInt8) (c : Rd) (x : List UInt8) (e : Er) : Prop where
  on : b.On c x.length
  bytes : x = upTo d b.todo
  err : e = if d ∈ b.todo then erNone else erEnds
  last : x ≠ [] → c.lb = lastOf x (-1) ∧ c.lr = -1
  keep : x = [] → c.lb = b.lb ∧ c.lr = b.lr
  place : 0 < c.r ∨ c.buf = []

theorem lastOf_append (l m : List UInt8) (d : Int) (h : m ≠ []) : lastOf (l ++ m) d = lastOf m d := by
  unfold lastOf
  rw [List.getLast?_append]
  cases hm : m.getLast? with
  | none => rw [List.getLast?_eq_none_iff] at hm; exact absurd hm h
  | some x => rfl

theorem upTo_split {d : UInt8} {l : List UInt8} {n : Nat} (h : d ∉ l.take n) : upTo d l = l.take n ++ upTo d (l.drop n) := by
  have e : l = l.take n ++ l.drop n := (List.take_append_drop n l).symm
  generalize l.take n = a at e h
  generalize l.drop n = c at e
  subst e
  unfold upTo
  by_cases hm : d ∈ c
  · rw [if_pos hm, if_pos (List.mem_append_right _ hm)]
    have : (a ++ c).idxOf d = a.length + c.idxOf d := by
      clear hm
      induction a with
      | nil => simp
      | cons x r ih =>
        have hx : (x == d) = false := by simp at h ⊢; exact fun e => h.1 e.symm
        rw [List.cons_append, List.idxOf_cons, hx]
        simp only [cond_false]
        rw [ih (fun hh => h (List.mem_cons_of_mem _ hh))]
        simp; omega
    rw [this, Nat.add_assoc, List.take_length_add_append]
  · rw [if_neg hm, if_neg (by simp; exact ⟨h, hm⟩)]

theorem Rd.collect_on (d : UInt8) : ∀ (k : Nat) (b : Rd), b.Fit → b.todo.length < k * b.size → b.BytesOn d (Rd.collect d k b).1 (Rd.collect d k b).2.1 (Rd.collect d k b).2.2 := by
  intro k
  induction k with
  | zero => intro b _ h; omega
  | succ k ih =>
    intro b h hk
    have hs := Rd.readSlice_on h d
    have h16 := h.ok.size
    unfold Rd.collect
    simp only []
    by_cases he : (b.readSlice d).2.2 = erFull
    · rw [if_pos he]
      rcases hs.kind with ⟨e1, _⟩ | ⟨_, e2, e3⟩ | ⟨e1, _⟩
      · rw [he] at e1; cases e1
      · have htd := hs.on.todo
        have hle : b.size ≤ b.todo.length := by
          have := congrArg List.length hs.bytes
          simp at this; omega
        have hlen : (b.readSlice d).1.todo.length < k * (b.readSlice d).1.size := by
          rw [htd, hs.on.same.size, e3, List.length_drop]
          rw [Nat.succ_mul] at hk
          omega
        have hi := ih _ hs.on.fit hlen
        have hne : (b.readSlice d).2.1 ≠ [] := fun e => by rw [e] at e3; simp at e3; omega
        have hx : (b.readSlice d).2.1 = b.todo.take b.size := by rw [← e3]; exact hs.bytes
        have hdt : (b.readSlice d).1.todo = b.todo.drop b.size := by rw [htd, e3]
        refine ⟨?_, ?_, ?_, fun _ => ?_, fun e => ?_, hi.place⟩
        · simp only [List.length_append]
          exact hs.on.trans hi.on
        · rw [hi.bytes, hdt, hx, ← upTo_split e2]
        · rw [hi.err, hdt]
          have : d ∈ b.todo ↔ d ∈ b.todo.drop b.size := by
            constructor
            · intro hm
              rw [← List.take_append_drop b.size b.todo] at hm
              rcases List.mem_append.1 hm with hm | hm
              · exact absurd hm e2
              · exact hm
            · exact List.mem_of_mem_drop
          simp only [this]
        · by_cases hy : (Rd.collect d k (b.readSlice d).1).2.1 = []
          · have hl := hs.last hne
            have hk2 := hi.keep hy
            rw [hy, List.append_nil, hk2.1, hk2.2]
            exact ⟨hl.1, hl.2.1⟩
          · rw [lastOf_append _ _ _ hy]
            exact hi.last hy
        · simp at e; exact absurd e.1 hne
      · rw [he] at e1; cases e1
    · rw [if_neg he]
      refine ⟨hs.on, ?_, ?_, fun hne => ⟨(hs.last hne).1, (hs.last hne).2.1⟩, hs.keep, ?_⟩
      · rcases hs.kind with ⟨_, e2, _, e4⟩ | ⟨e1, _⟩ | ⟨_, e2, e3, _⟩
        · unfold upTo; rw [if_pos e2, ← e4]; exact hs.bytes
        · exact absurd e1 he
        · unfold upTo; rw [if_neg e2]
          have := hs.bytes
          rw [e3, List.take_length] at this
          exact this
      · rcases hs.kind with ⟨e1, e2, _, e4⟩ | ⟨e1, _⟩ | ⟨e1, e2, e3, _⟩
        · rw [if_pos e2]; exact e1
        · exact absurd e1 he
        · rw [if_neg e2]; exact e1
      · by_cases hx : (b.readSlice d).2.1 = []
        · have hen : (b.readSlice d).2.2 ≠ erNone := fun e => by
            rcases hs.kind with ⟨_, _, _, e4⟩ | ⟨e1, _⟩ | ⟨e1, _⟩
            · rw [hx] at e4; simp at e4
            · rw [e] at e1; cases e1
            · rw [e] at e1; cases e1
          have := hs.whole hen
          by_cases hr : 0 < (b.readSlice d).1.r
          · exact .inl hr
          · right; exact List.eq_nil_of_length_eq_zero (by omega)
        · exact .inl (hs.last hx).2.2

end Go.Proofs.YtfigpbcmnlkdjaaDoor
