/-
  Read and Discard of the plain reader, told by the data that are left. No program in sight.
-/
import Derived.Test.YtfigpbcmnlkdjaaDoorPureJ
namespace Go.Proofs.YtfigpbcmnlkdjaaDoor

/-- What Read gives. -/
structure Rd.ReadOn (b : Rd) (n : Nat) (c : Rd) (x : List UInt8) (e : Er) : Prop where
  on : b.On c x.length
  bytes : x = b.todo.take x.length
  le : x.length ≤ n
  some : 0 < n → b.todo ≠ [] → 0 < x.length
  err : e = erNone ∨ e = erEnds ∧ b.todo.length = x.length
  ends : 0 < n → b.todo = [] → e = erEnds
  last : x ≠ [] → c.lb = lastOf x (-1) ∧ c.lr = -1 ∧ (0 < c.r ∨ c.buf = [])
  keep : x = [] → c.lb = b.lb ∧ c.lr = b.lr

theorem Rd.Fit.todo_nil {b : Rd} (h : b.Fit) : b.todo = [] ↔ b.avail = 0 ∧ b.src.pos = b.src.data.length := by
  have h1 := h.todo_length
  have h2 := h.ok.src.pos
  constructor
  · intro e; rw [e] at h1; simp at h1; omega
  · intro ⟨h3, h4⟩; exact List.eq_nil_of_length_eq_zero (by omega)

theorem lastOf_some (l : List UInt8) (d d' : Int) (h : l ≠ []) : lastOf l d = lastOf l d' := by
  unfold lastOf
  cases hl : l.getLast? with
  | none => rw [List.getLast?_eq_none_iff] at hl; exact absurd hl h
  | some x => rfl

theorem Rd.give_on {b : Rd} (h : b.Fit) (n : Nat) (hn : 0 < n) (ha : 0 < b.avail) : b.ReadOn n (b.give n).1 (b.give n).2.1 (b.give n).2.2 := by
  have hl : (b.rest.take n).length = min n b.avail := by simp [Rd.rest_length]
  have hb := lastOf_bounds (b.rest.take n) b.lb h.ok.lb
  have hs := h.step (min n b.avail) (by omega) (lastOf (b.rest.take n) b.lb) (-1) hb (by omega)
  have hne : b.rest.take n ≠ [] := fun e => by rw [e] at hl; simp at hl; omega
  unfold Rd.give
  refine ⟨by simp only [hl]; exact hs, ?_, by simp only [hl]; omega, fun _ _ => by simp only [hl]; omega, .inl rfl, fun _ e => ?_, fun _ => ⟨lastOf_some _ _ _ hne, rfl, .inl ?_⟩, fun e => absurd e hne⟩
  · simp only [hl]
    rw [h.rest, List.take_take]
  · have := (h.todo_nil.1 e).1; omega
  · show 0 < b.r + min n b.avail; omega

theorem Rd.read_on {b : Rd} (h : b.Fit) (n : Nat) : b.ReadOn n (b.read n).1 (b.read n).2.1 (b.read n).2.2 := by
  have hpos := h.ok.src.pos
  unfold Rd.read
  by_cases hn : n = 0
  · subst hn
    simp only [if_pos]
    by_cases ha : 0 < b.avail
    · rw [if_pos ha]
      exact ⟨⟨h, Rd.Same.refl _, rfl⟩, rfl, Nat.le_refl _, (fun e => by omega), .inl rfl, (fun e => by omega), fun e => absurd rfl e, fun _ => ⟨rfl, rfl⟩⟩
    · rw [if_neg ha]
      refine ⟨⟨h.clear, ⟨rfl, rfl, rfl, rfl, rfl⟩, rfl⟩, rfl, Nat.le_refl _, (fun e => by omega), ?_, (fun e => by omega), fun e => absurd rfl e, fun _ => ⟨rfl, rfl⟩⟩
      cases he : b.err with
      | false => left; simp
      | true =>
        right
        have := h.ok.err he
        have h2 := h.todo_nil.2 ⟨by omega, this⟩
        rw [h2]
        exact ⟨rfl, rfl⟩
  · rw [if_neg hn]
    by_cases ha : b.avail = 0
    · rw [if_pos ha]
      have hr0 : b.rest = [] := List.eq_nil_of_length_eq_zero (by rw [Rd.rest_length]; exact ha)
      have hcur : b.cur = b.src.pos := by unfold Rd.cur; omega
      by_cases he' : b.err = true
      · have hp := h.ok.err he'
        have h2 := h.todo_nil.2 ⟨ha, hp⟩
        rw [if_pos he']
        exact ⟨⟨h.clear, ⟨rfl, rfl, rfl, rfl, rfl⟩, rfl⟩, rfl, Nat.zero_le _, (fun _ e => absurd h2 e), .inr ⟨rfl, by rw [h2]⟩, fun _ _ => rfl, fun e => absurd rfl e, fun _ => ⟨rfl, rfl⟩⟩
      · rw [if_neg he']
        have he : b.err = false := by simpa using he'
        by_cases hs : b.size ≤ n
        · rw [if_pos hs]
          have hl := Src.bytes_length h.ok.src n
          have hg := Src.gives_le h.ok.src n
          have hgp := Src.gives_pos h.ok.src (m := n) (by omega)
          have hbn : lastOf (b.src.bytes n) b.lb ≥ -1 ∧ lastOf (b.src.bytes n) b.lb ≤ 255 := lastOf_bounds _ _ h.ok.lb
          have htodo : b.todo = b.src.data.drop b.src.pos := by unfold Rd.todo; rw [hcur]
          have hbuf : b.buf.length = b.r := by have := h.ok.r; unfold Rd.avail at ha; omega
          refine ⟨⟨⟨⟨Src.after_ok h.ok.src n (by omega), h.ok.size, h.ok.r, h.ok.w, (fun e => by rw [show ({ b with src := b.src.after n, lb := lastOf (b.src.bytes n) b.lb, lr := if b.src.gives n = 0 then b.lr else -1 } : Rd).err = b.err from rfl, he] at e; cases e), hbn, ?_⟩, ?_, ?_⟩, ⟨Src.after_data _ _, Src.after_cuts _ _, Src.after_eof _ _, Src.after_wth _ _, rfl⟩, ?_⟩, ?_, by simp only [hl]; omega, fun _ hne => ?_, ?_, fun _ e => ?_, fun hne => ⟨lastOf_some _ _ _ hne, ?_, ?_⟩, fun e => ⟨?_, ?_⟩⟩
          · have := h.ok.lr
            simp only
            split <;> omega
          · show b.avail ≤ _; rw [ha]; exact Nat.zero_le _
          · show b.rest = List.take b.avail _; rw [hr0, ha]; simp
          · show (b.src.after n).pos - b.avail = b.cur + (b.src.bytes n).length
            rw [Src.after_pos, hl, ha, hcur]; omega
          · simp only [hl]; rw [htodo]; rfl
          · simp only [hl]
            rcases hgp with hgp | ⟨_, h3⟩
            · exact hgp
            · exact absurd (h.todo_nil.2 ⟨ha, h3⟩) hne
          · simp only [hl]
            have hlen := h.todo_length
            rcases hgp with hgp | ⟨h3, h4⟩
            · unfold Src.ends
              by_cases e1 : b.src.pos = b.src.data.length
              · omega
              · rw [if_neg e1]
                by_cases e2 : (decide (b.src.pos + b.src.gives n = b.src.data.length) && b.src.wth) = true
                · rw [if_pos e2]
                  right
                  simp at e2
                  exact ⟨rfl, by omega⟩
                · rw [if_neg e2]; exact .inl rfl
            · rw [h3, if_pos rfl]; right; exact ⟨rfl, by omega⟩
          · have h3 := (h.todo_nil.1 e).2
            simp only
            have : b.src.ends (b.src.gives n) = true := by unfold Src.ends; rw [if_pos h3]
            rw [this, if_pos rfl]
          · have : b.src.gives n ≠ 0 := fun e => hne (List.eq_nil_of_length_eq_zero (by rw [hl, e]))
            simp [this]
          · by_cases hr : 0 < b.r
            · exact .inl hr
            · right; exact List.eq_nil_of_length_eq_zero (by show b.buf.length = 0; omega)
          · simp only at e ⊢; rw [e]; rfl
          · simp only at e ⊢
            have : b.src.gives n = 0 := by rw [← hl, e]; rfl
            rw [if_pos this]
        · rw [if_neg hs]
          have hlt : b.avail < b.size := by omega
          have hff := Rd.fill_fit h hlt
          have hfc := Rd.fill_cur h
          have hfs : b.Same b.fill := (Rd.fill_like b).same
          have hgp := Src.gives_pos h.ok.src (m := b.size) (by omega)
          by_cases hg : b.src.gives b.size = 0
          · rw [if_pos hg]
            have h3 : b.src.ends (b.src.gives b.size) = true ∧ b.src.pos = b.src.data.length := by
              rcases hgp with h4 | h4
              · omega
              · exact h4
            have e0 : ({ b with src := b.src.after b.size, buf := [], r := 0 } : Rd) = b.fill.clear := by
              have hb0 : b.src.bytes b.size = [] := List.eq_nil_of_length_eq_zero (by rw [Src.bytes_length h.ok.src, hg])
              simp [Rd.fill, Rd.clear, ha, hr0, hb0, he]
            rw [e0]
            have h2 := h.todo_nil.2 ⟨ha, h3.2⟩
            simp only [h3.1, if_true]
            exact ⟨⟨hff.clear, ⟨hfs.data, hfs.cuts, hfs.eof, hfs.wth, hfs.size⟩, hfc⟩, rfl, Nat.zero_le _, (fun _ e => absurd h2 e), .inr ⟨rfl, by rw [h2]⟩, fun _ _ => rfl, fun e => absurd rfl e, fun _ => ⟨rfl, rfl⟩⟩
          · rw [if_neg hg]
            have e0 : ({ b with src := b.src.after b.size, buf := b.src.bytes b.size, r := 0, err := b.src.ends (b.src.gives b.size) } : Rd) = b.fill := by
              simp [Rd.fill, ha, hr0, he]
            rw [e0]
            have hfa := Rd.fill_avail h.ok
            rw [ha, Nat.sub_zero] at hfa
            have hg2 := Rd.give_on hff n (by omega) (by omega)
            have htd : b.fill.todo = b.todo := by unfold Rd.todo; rw [hfc, Rd.fill_data]
            exact ⟨⟨hg2.on.fit, hfs.trans hg2.on.same, by rw [hg2.on.cur, hfc]⟩, by rw [← htd]; exact hg2.bytes, hg2.le, fun a c => hg2.some a (by rw [htd]; exact c), by rw [← htd]; exact hg2.err, fun a c => hg2.ends a (by rw [htd]; exact c), hg2.last, hg2.keep⟩
    · rw [if_neg ha]
      exact Rd.give_on h n (by omega) (by omega)

/-- What the loop of Discard comes to. -/
theorem Rd.skip_on : ∀ (k : Nat) (b : Rd) (n : Nat), b.Fit → 0 < n → b.more + (if b.avail = 0 then 0 else 1) ≤ k → 0 < k → b.lb = -1 → b.lr = -1 →
    (Rd.skip k b n).1 = n - min n b.todo.length ∧ b.On (Rd.skip k b n).2 (min n b.todo.length) ∧ (Rd.skip k b n).2.lb = -1 ∧ (Rd.skip k b n).2.lr = -1 := by
  intro k
  induction k with
  | zero => intro b n _ _ _ h0; omega
  | succ k ih =>
    intro b n h hn hk _ hlb hlr
    have hsz := h.ok.size
    obtain ⟨b1, hb1⟩ : ∃ b1, b1 = if b.avail = 0 then b.fill else b := ⟨_, rfl⟩
    have hf1 : b1.Fit ∧ b1.cur = b.cur ∧ b.Same b1 ∧ b1.lb = -1 ∧ b1.lr = -1 ∧ (b.avail = 0 → b.err = false → b1.more < b.more) ∧ (b.avail ≠ 0 → b1 = b) ∧ (b.avail = 0 → b1 = b.fill) := by
      subst hb1
      by_cases ha : b.avail = 0
      · rw [if_pos ha]
        exact ⟨Rd.fill_fit h (by omega), Rd.fill_cur h, (Rd.fill_like b).same, hlb, hlr, fun _ he => Rd.fill_more h.ok (by omega) he, fun e => absurd ha e, fun _ => rfl⟩
      · rw [if_neg ha]
        exact ⟨h, rfl, Rd.Same.refl _, hlb, hlr, fun e => absurd e ha, fun _ => rfl, fun e => absurd e ha⟩
    obtain ⟨f1, f2, f3, f4, f5, f6, f7, f8⟩ := hf1
    have ht1 : b1.todo = b.todo := by unfold Rd.todo; rw [f2, f3.data]
    have hs := f1.step (min b1.avail n) (by omega) b1.lb b1.lr f1.ok.lb f1.ok.lr
    have htl := f1.todo_length
    rw [ht1] at htl
    show (let b1 := if b.avail = 0 then b.fill else b
      let b2 := { b1 with r := b1.r + min b1.avail n }
      if n - min b1.avail n = 0 then (0, b2)
      else if b2.err then (n - min b1.avail n, b2)
      else Rd.skip k b2 (n - min b1.avail n)).1 = _ ∧ b.On (let b1 := if b.avail = 0 then b.fill else b
      let b2 := { b1 with r := b1.r + min b1.avail n }
      if n - min b1.avail n = 0 then (0, b2)
      else if b2.err then (n - min b1.avail n, b2)
      else Rd.skip k b2 (n - min b1.avail n)).2 _ ∧ (let b1 := if b.avail = 0 then b.fill else b
      let b2 := { b1 with r := b1.r + min b1.avail n }
      if n - min b1.avail n = 0 then (0, b2)
      else if b2.err then (n - min b1.avail n, b2)
      else Rd.skip k b2 (n - min b1.avail n)).2.lb = -1 ∧ (let b1 := if b.avail = 0 then b.fill else b
      let b2 := { b1 with r := b1.r + min b1.avail n }
      if n - min b1.avail n = 0 then (0, b2)
      else if b2.err then (n - min b1.avail n, b2)
      else Rd.skip k b2 (n - min b1.avail n)).2.lr = -1
    simp only [← hb1]
    have hon : b.On { b1 with r := b1.r + min b1.avail n } (min b1.avail n) := ⟨hs.fit, f3.trans hs.same, by rw [hs.cur, f2]⟩
    by_cases h0 : n - min b1.avail n = 0
    · rw [if_pos h0]
      have e1 : min n b.todo.length = min b1.avail n := by omega
      rw [e1]
      exact ⟨h0.symm ▸ rfl, hon, f4, f5⟩
    · rw [if_neg h0]
      have e2 : min b1.avail n = b1.avail := by omega
      rw [e2] at hon ⊢
      by_cases he' : b1.err = true
      · rw [if_pos he']
        have := f1.ok.err he'
        have e1 : min n b.todo.length = b1.avail := by omega
        rw [e1]
        exact ⟨rfl, hon, f4, f5⟩
      · rw [if_neg he']
        have he : b1.err = false := by simpa using he'
        have hav : ({ b1 with r := b1.r + b1.avail } : Rd).avail = 0 := by simp only [Rd.avail]; omega
        have hbe : b.avail = 0 → b.err = false := fun ha => by
          cases hbe : b.err with
          | false => rfl
          | true => rw [f8 ha] at he; simp [Rd.fill, hbe] at he
        have hm : ({ b1 with r := b1.r + b1.avail } : Rd).more = b1.more := rfl
        have hb1m : 0 < b1.more := by unfold Rd.more; rw [he]; simp
        have hfu : ({ b1 with r := b1.r + b1.avail } : Rd).more + (if ({ b1 with r := b1.r + b1.avail } : Rd).avail = 0 then 0 else 1) ≤ k := by
          rw [hav, hm]
          by_cases ha : b.avail = 0
          · have := f6 ha (hbe ha); simp [ha] at hk ⊢; omega
          · rw [f7 ha]; simp [ha] at hk ⊢; omega
        obtain ⟨i1, i2, i3, i4⟩ := ih _ (n - b1.avail) hon.fit (by omega) hfu (by rw [hav, hm] at hfu; simp at hfu; omega) f4 f5
        have ht2 : ({ b1 with r := b1.r + b1.avail } : Rd).todo.length = b.todo.length - b1.avail := by rw [hon.todo]; simp
        rw [ht2] at i1 i2
        refine ⟨by rw [i1]; omega, ?_, i3, i4⟩
        have := hon.trans i2
        have e3 : b1.avail + min (n - b1.avail) (b.todo.length - b1.avail) = min n b.todo.length := by omega
        rw [e3] at this
        exact this

theorem Rd.discard_on {b : Rd} (h : b.Fit) (n : Nat) : b.On (b.discard n).1 (min n b.todo.length) ∧ (b.discard n).2.1 = min n b.todo.length ∧ (b.discard n).2.2 = (if b.todo.length < n then erEnds else erNone) ∧
    (n = 0 → (b.discard n).1 = b) ∧ (0 < n → (b.discard n).1.lb = -1 ∧ (b.discard n).1.lr = -1) := by
  unfold Rd.discard
  by_cases hn : n = 0
  · subst hn
    simp only [if_pos]
    exact ⟨⟨h, Rd.Same.refl _, by simp⟩, by simp, by simp, fun _ => trivial, fun e => by omega⟩
  · rw [if_neg hn]
    have h0 : ({ b with lb := -1, lr := -1 } : Rd).Fit := h.marks (-1) (-1) (by omega) (by omega)
    obtain ⟨i1, i2, i3, i4⟩ := Rd.skip_on (b.more + 1) { b with lb := -1, lr := -1 } n h0 (by omega) (by show b.more + _ ≤ _; split <;> omega) (by omega) rfl rfl
    have ht : ({ b with lb := -1, lr := -1 } : Rd).todo = b.todo := rfl
    rw [ht] at i1 i2
    simp only []
    by_cases hx : (Rd.skip (b.more + 1) { b with lb := -1, lr := -1 } n).1 = 0
    · rw [if_pos hx]
      have : n ≤ b.todo.length := by omega
      exact ⟨⟨i2.fit, ⟨i2.same.data, i2.same.cuts, i2.same.eof, i2.same.wth, i2.same.size⟩, i2.cur⟩, by simp only; omega, by rw [if_neg (by omega)], fun e => absurd e hn, fun _ => ⟨i3, i4⟩⟩
    · rw [if_neg hx]
      have : b.todo.length < n := by omega
      refine ⟨⟨i2.fit.clear, ⟨i2.same.data, i2.same.cuts, i2.same.eof, i2.same.wth, i2.same.size⟩, i2.cur⟩, by simp only; omega, by rw [if_pos this], fun e => absurd e hn, fun _ => ⟨i3, i4⟩⟩

end Go.Proofs.YtfigpbcmnlkdjaaDoor
