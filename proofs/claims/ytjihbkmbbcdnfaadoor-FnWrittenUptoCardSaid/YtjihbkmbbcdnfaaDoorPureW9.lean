/-
  The plain laws of FnWritten and FnWriterReset.
-/
import Derived.Test.YtjihbkmbbcdnfaaDoorPureW8
namespace Go.Proofs.YtjihbkmbbcdnfaaDoor

/-- How much is in the buffer behind a call that came without an error. -/
def dlen (s m : Nat) (c : CallR) : Nat :=
  if c.kind = 0 then wlen s m c.bytes.length else if c.kind = 1 then blen s m else if c.kind = 2 then rlen s m (i32of c.n) else if c.kind = 3 then slen s m c.bytes.length else if c.kind = 4 then 0 else m
def dlens (s : Nat) : Nat → List CallR → Nat
  | m, [] => m
  | m, c :: cs => dlens s (dlen s m c) cs

theorem WW.Does.dlen {a b : WW} {c : CallR} {o : OutW} (h : a.Does c o b) (h7 : c.kind ≠ 7) (hok : a.wr.Ok) (he : b.wr.err = false) : b.wr.buf.length = dlen a.wr.size a.wr.buf.length c := by
  have hf := h.fine h7 hok he
  have ha := hf.before
  have h4' := hf.fl
  unfold WW.Does at h
  unfold Go.Proofs.YtjihbkmbbcdnfaaDoor.dlen
  by_cases h0 : c.kind = 0
  · rw [if_pos h0] at h ⊢
    obtain ⟨n, s, _, hw, _, rfl⟩ := h
    exact hw ha he
  rw [if_neg h0] at h ⊢
  by_cases h1 : c.kind = 1
  · rw [if_pos h1] at h ⊢
    obtain ⟨s, _, hw, _, rfl⟩ := h
    exact hw ha he
  rw [if_neg h1] at h ⊢
  by_cases h2 : c.kind = 2
  · rw [if_pos h2] at h ⊢
    obtain ⟨n, s, _, hw, _, rfl⟩ := h
    exact hw ha he
  rw [if_neg h2] at h ⊢
  by_cases h3 : c.kind = 3
  · rw [if_pos h3] at h ⊢
    obtain ⟨n, s, _, hw, _, rfl⟩ := h
    exact hw ha he
  rw [if_neg h3] at h ⊢
  by_cases h4 : c.kind = 4
  · rw [if_pos h4, h4' h4]; rfl
  rw [if_neg h4] at h ⊢
  by_cases h5 : c.kind = 5
  · rw [if_pos h5] at h; rw [h.2]
  rw [if_neg h5] at h
  by_cases h6 : c.kind = 6
  · rw [if_pos h6] at h; rw [h.2]
  rw [if_neg h6, if_neg h7] at h
  rw [h.2]

/-- A run without an error: how much is in the buffer, and what is returned. -/
theorem WW.Runs.fine : ∀ {cs : List CallR} {a b : WW} {outs : List OutW} {z : Wr} {x : List UInt8}, a.Runs cs outs b → (∀ c ∈ cs, c.kind ≠ 7) → z.Step x a.wr → b.wr.err = false →
    a.wr.err = false ∧ b.wr.buf.length = dlens a.wr.size a.wr.buf.length cs ∧ b.wr.size = a.wr.size ∧ ∀ (i : Nat) (o : OutW) (c : CallR), outs[i]? = some o → cs[i]? = some c → o.err = 0 ∧ (c.kind = 0 ∨ c.kind = 2 ∨ c.kind = 3 → o.n = (ask c).length)
  | [], a, b, outs, z, x, h, _, _, he => by obtain ⟨rfl, rfl⟩ := h; exact ⟨he, rfl, rfl, fun i o c ho => by simp at ho⟩
  | c :: cs, a, b, outs, z, x, h, hk, hs, he => by
    obtain ⟨o, r, m, rfl, h1, h2⟩ := h
    have hkc := hk c (by simp)
    obtain ⟨k1, _, _⟩ := h1.step hkc hs
    obtain ⟨k4, k5, k6, k7⟩ := WW.Runs.fine h2 (fun c' hc => hk c' (by simp [hc])) k1 he
    have hf := h1.fine hkc hs.ok k4
    have hd := h1.dlen hkc hs.ok k4
    refine ⟨hf.before, by rw [k5, hd, hf.sz]; rfl, k6.trans hf.sz, fun i o' c' ho hc => ?_⟩
    cases i with
    | zero =>
      simp only [List.getElem?_cons_zero, Option.some.injEq] at ho hc
      subst ho hc
      exact ⟨hf.err, hf.n⟩
    | succ i => exact k7 i o' c' (by simpa using ho) (by simpa using hc)

theorem Wr.Step.noerr {x : List UInt8} {size : Nat} {b : Wr} (h : (Wr.fresh x.length size).Step x b) : b.err = false := by
  cases he : b.err with
  | false => rfl
  | true =>
    obtain ⟨c1, c2, c3⟩ := h.cut he
    have h1 := h.room
    simp only [Wr.fresh, List.length_nil, List.nil_append] at c1 c2 h1
    omega

theorem Wr.Step.begin {room : Int} {x : List UInt8} {size : Nat} {b : Wr} (h : (Wr.fresh room size).Step x b) : b.snk.got = x.take b.snk.got.length ∧ b.snk.got.length ≤ x.length ∧ b.snk.got.length ≤ room.toNat := by
  have h1 := h.room
  have h2 := h.low
  simp only [Wr.fresh, List.length_nil] at h1 h2
  have h3 : b.snk.got.length ≤ room.toNat := by omega
  cases he : b.err with
  | true =>
    obtain ⟨c1, c2, c3⟩ := h.cut he
    simp only [Wr.fresh, List.nil_append] at c1 c2 c3
    exact ⟨c3, by omega, h3⟩
  | false =>
    have ha := h.all he
    simp only [Wr.fresh, List.nil_append] at ha
    rw [← ha]
    exact ⟨by simp, by simp, h3⟩

theorem written_run {size : Nat} {cs : List CallR} {x : List UInt8} {outs outs2 : List OutW} {a a2 : WW} (hs : 1 ≤ size ∧ size ≤ 32767) (hk : ∀ c ∈ cs, 0 ≤ c.kind ∧ c.kind ≤ 6) (hx : asks cs = x)
    (h : (WW.start x.length 0 size).Runs (cs ++ [callK 6, callK 5, callK 4, callK 6]) outs a) (h' : (WW.start x.length 0 size).Runs (cs ++ [callK 6, callK 5]) outs2 a2) :
    outs.length = cs.length + 4 ∧ outs2.length = cs.length + 2 ∧ a.got2 = [] ∧ a.got1 = x ∧
    ∃ m : Nat, m ≤ size ∧ outs[cs.length]? = some ⟨m, 0⟩ ∧ outs[cs.length + 1]? = some ⟨(size : Int) - m, 0⟩ ∧ outs[cs.length + 3]? = some ⟨0, 0⟩ ∧ a2.got1.length + m = x.length ∧ a2.got1 = x.take a2.got1.length ∧
      ∀ (i : Nat) (o : OutW) (c : CallR), outs[i]? = some o → (cs ++ [callK 6, callK 5, callK 4, callK 6])[i]? = some c → o.err = 0 ∧ (c.kind = 0 ∨ c.kind = 2 ∨ c.kind = 3 → o.n = (ask c).length) := by
  have hlen := h.length
  have hlen' := h'.length
  simp only [List.length_append, List.length_cons, List.length_nil] at hlen hlen'
  have hs0 : (Wr.fresh x.length size).Step [] (WW.start x.length 0 size).wr := Wr.Step.refl ⟨hs, Nat.zero_le _⟩ rfl
  have hk7 : ∀ c ∈ cs ++ [callK 6, callK 5, callK 4, callK 6], c.kind ≠ 7 := by
    intro c hc
    rcases List.mem_append.1 hc with hc | hc
    · have := hk c hc; omega
    · simp [callK] at hc
      rcases hc with rfl | rfl | rfl | rfl <;> simp
  obtain ⟨s1, s2, s3⟩ := h.step hk7 hs0
  have ha4 : asks (cs ++ [callK 6, callK 5, callK 4, callK 6]) = x := by rw [asks_append, hx]; simp [asks, ask, callK]
  rw [List.nil_append, ha4] at s1
  have hea := s1.noerr
  obtain ⟨_, _, _, hall⟩ := h.fine hk7 hs0 hea
  obtain ⟨o1, o2, m, rfl, h1, h2⟩ := h.split
  obtain ⟨p1, p2, m2, rfl, h1', h2'⟩ := h'.split
  have hkc : ∀ c ∈ cs, c.kind ≠ 7 := fun c hc => by have := hk c hc; omega
  obtain ⟨t1, t2, t3⟩ := h1.step hkc hs0
  obtain ⟨u1, u2, u3⟩ := h1'.step hkc hs0
  rw [List.nil_append, hx] at t1 u1
  have hem := t1.noerr
  have hem2 := u1.noerr
  obtain ⟨_, l1, z1, _⟩ := h1.fine hkc hs0 hem
  obtain ⟨_, l2, _, _⟩ := h1'.fine hkc hs0 hem2
  have hlo1 := h1.length
  have hlm : m.wr.buf.length = m2.wr.buf.length := by rw [l1, l2]
  obtain ⟨ob, r1, m3, rfl, d1, oa, r2, m4, rfl, d2, of, r3, m5, rfl, d3, oe, r4, m6, rfl, d4, rfl, rfl⟩ := h2
  obtain ⟨ob', r1', m3', rfl, d1', oa', r2', m4', rfl, d2', rfl, rfl⟩ := h2'
  unfold WW.Does at d1 d2 d3 d4 d1' d2'
  rw [if_neg (by decide), if_neg (by decide), if_neg (by decide), if_neg (by decide), if_neg (by decide), if_neg (by decide), if_pos (show (callK 6).kind = 6 from rfl)] at d1 d4 d1'
  rw [if_neg (by decide), if_neg (by decide), if_neg (by decide), if_neg (by decide), if_neg (by decide), if_pos (show (callK 5).kind = 5 from rfl)] at d2 d2'
  rw [if_neg (by decide), if_neg (by decide), if_neg (by decide), if_neg (by decide), if_pos (show (callK 4).kind = 4 from rfl)] at d3
  obtain ⟨rfl, e1⟩ := d1
  obtain rfl : m = m3 := e1.symm
  obtain ⟨rfl, e2⟩ := d2
  obtain rfl : m = m4 := e2.symm
  obtain ⟨rfl, rfl⟩ := d3
  obtain ⟨rfl, rfl⟩ := d4
  obtain ⟨rfl, e3⟩ := d1'
  obtain rfl : m2 = m3' := e3.symm
  obtain ⟨rfl, e4⟩ := d2'
  obtain rfl : m2 = a2 := e4.symm
  obtain ⟨f1, f2⟩ := t1.flush
  have hef := f1.noerr
  obtain ⟨e1, _⟩ := f1.ended f2
  have hmsz : m.wr.size = size := z1
  have hsnd : m.snd = false := t3
  have hsnd2 : m2.snd = false := u3
  have hoth : m.other = ⟨0, []⟩ := t2
  have hu := u1.all hem2
  simp only [Wr.fresh, List.nil_append] at hu
  obtain ⟨b1, b2, b3⟩ := u1.begin
  refine ⟨by omega, by omega, ?_, ?_, m.wr.buf.length, ?_, ?_, ?_, ?_, ?_, ?_, hall⟩
  · unfold WW.got2
    rw [show ({ m with wr := m.wr.flush } : WW).snd = m.snd from rfl, hsnd]
    show m.other.got = []
    rw [hoth]
  · unfold WW.got1
    rw [show ({ m with wr := m.wr.flush } : WW).snd = m.snd from rfl, hsnd]
    show m.wr.flush.snk.got = x
    rw [e1, List.take_of_length_le (by omega)]
  · have := t1.ok.buf; omega
  · rw [List.getElem?_append_right (by omega), hlo1]; simp
  · rw [List.getElem?_append_right (by omega), hlo1, show cs.length + 1 - cs.length = 1 by omega]; simp [hmsz]
  · rw [List.getElem?_append_right (by omega), hlo1, show cs.length + 3 - cs.length = 3 by omega]; simp [f2 hef]
  · unfold WW.got1
    rw [hsnd2]
    show m2.wr.snk.got.length + _ = _
    rw [← hu, List.length_append, hlm]
  · unfold WW.got1
    rw [hsnd2]
    exact b1

theorem asks_map (ps : List (List UInt8)) : asks (ps.map fun p => ⟨0, 0, 0, p⟩) = joined ps := by
  induction ps with
  | nil => rfl
  | cons p ps ih =>
    unfold joined at ih ⊢
    simp [asks, ask, ih]

theorem reset_run {room other : Int} {size : Nat} {cs : List CallR} {x : List UInt8} {qs : List (List UInt8)} {outs : List OutW} {a : WW} (hs : 1 ≤ size ∧ size ≤ 32767) (hk : ∀ c ∈ cs, c.kind = 0) (hx : asks cs = x)
    (h : (WW.start room other size).Runs (cs ++ ([callK 7, callK 6] ++ ((qs.map fun p => ⟨0, 0, 0, p⟩) ++ [callK 4]))) outs a) :
    outs.length = cs.length + 2 + qs.length + 1 ∧ outs[cs.length + 1]? = some ⟨0, 0⟩ ∧ a.got2 = (joined qs).take other.toNat ∧ outs[cs.length + 2 + qs.length]? = some ⟨0, if other.toNat < (joined qs).length then 9 else 0⟩ ∧
      a.got1 = x.take a.got1.length ∧ a.got1.length ≤ x.length ∧ a.got1.length ≤ room.toNat := by
  have hlen := h.length
  simp only [List.length_append, List.length_cons, List.length_nil, List.length_map] at hlen
  obtain ⟨o1, o2, m, rfl, h1, h2⟩ := h.split
  have hs0 : (Wr.fresh room size).Step [] (WW.start room other size).wr := Wr.Step.refl ⟨hs, Nat.zero_le _⟩ rfl
  obtain ⟨t1, t2, t3⟩ := h1.step (fun c hc => by rw [hk c hc]; omega) hs0
  rw [List.nil_append, hx] at t1
  have hlo1 := h1.length
  simp only [List.cons_append, List.nil_append] at h2
  obtain ⟨ob, r1, m3, rfl, d1, oa, r2, m4, rfl, d2, h3⟩ := h2
  unfold WW.Does at d1 d2
  rw [if_neg (by decide), if_neg (by decide), if_neg (by decide), if_neg (by decide), if_neg (by decide), if_neg (by decide), if_neg (by decide), if_pos (show (callK 7).kind = 7 from rfl)] at d1
  rw [if_neg (by decide), if_neg (by decide), if_neg (by decide), if_neg (by decide), if_neg (by decide), if_neg (by decide), if_pos (show (callK 6).kind = 6 from rfl)] at d2
  obtain ⟨rfl, rfl⟩ := d1
  obtain ⟨rfl, rfl⟩ := d2
  have hsnd : m.snd = false := t3
  have hoth : m.other = ⟨other, []⟩ := t2
  have hsz : m.wr.size = size := t1.size
  have hre : m.reset = ⟨Wr.fresh other size, m.wr.snk, true⟩ := by
    unfold WW.reset
    rw [hsnd, hoth, hsz]
    rfl
  rw [hre] at h3 hlen ⊢
  obtain ⟨o3, o4, m5, rfl, h4, h5⟩ := h3.split
  have hs1 : (Wr.fresh other size).Step [] (⟨Wr.fresh other size, m.wr.snk, true⟩ : WW).wr := Wr.Step.refl ⟨hs, Nat.zero_le _⟩ rfl
  obtain ⟨u1, u2, u3⟩ := h4.step (fun c hc => by simp at hc; obtain ⟨p, _, rfl⟩ := hc; simp) hs1
  rw [List.nil_append, asks_map] at u1
  have hlo3 := h4.length
  rw [List.length_map] at hlo3
  obtain ⟨of, r3, m6, rfl, d3, rfl, rfl⟩ := h5
  unfold WW.Does at d3
  rw [if_neg (by decide), if_neg (by decide), if_neg (by decide), if_neg (by decide), if_pos (show (callK 4).kind = 4 from rfl)] at d3
  obtain ⟨rfl, rfl⟩ := d3
  obtain ⟨f1, f2⟩ := u1.flush
  obtain ⟨e1, e2⟩ := f1.ended f2
  obtain ⟨b1, b2, b3⟩ := t1.begin
  have hsn5 : m5.snd = true := u3
  have hot5 : m5.other = m.wr.snk := u2
  have hg1 : ({ m5 with wr := m5.wr.flush } : WW).got1 = m.wr.snk.got := by
    unfold WW.got1
    rw [show ({ m5 with wr := m5.wr.flush } : WW).snd = m5.snd from rfl, hsn5]
    show m5.other.got = _
    rw [hot5]
  refine ⟨by omega, ?_, ?_, ?_, by rw [hg1]; exact b1, by rw [hg1]; exact b2, by rw [hg1]; exact b3⟩
  · rw [List.getElem?_append_right (by omega), hlo1, show cs.length + 1 - cs.length = 1 by omega]; simp [Wr.fresh]
  · unfold WW.got2
    rw [show ({ m5 with wr := m5.wr.flush } : WW).snd = m5.snd from rfl, hsn5]
    exact e1
  · rw [List.getElem?_append_right (by omega), hlo1, show cs.length + 2 + qs.length - cs.length = qs.length + 2 by omega]
    simp only [List.getElem?_cons_succ]
    rw [List.getElem?_append_right (by omega), hlo3]
    simp only [Nat.sub_self, List.getElem?_cons_zero]
    congr 2
    by_cases hc : other.toNat < (joined qs).length
    · rw [if_pos hc, e2.2 hc]; rfl
    · rw [if_neg hc]
      cases hx : m5.wr.flush.err with
      | false => rfl
      | true => exact absurd (e2.1 hx) hc
end Go.Proofs.YtjihbkmbbcdnfaaDoor
