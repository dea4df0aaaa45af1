/-
  What runs of calls without Reset leave in the sink and return. No program in sight but for the words of a call.
-/
import Derived.Test.YtjihbkmbbcdnfaaDoorPureW4
namespace Go.Proofs.YtjihbkmbbcdnfaaDoor

/-- The bytes that a call wants to write. -/
def ask (c : CallR) : List UInt8 := if c.kind = 0 ∨ c.kind = 3 then c.bytes else if c.kind = 1 then [c.delim] else if c.kind = 2 then runeB (i32of c.n) else []
def asks : List CallR → List UInt8
  | [] => []
  | c :: cs => ask c ++ asks cs
theorem asks_append : ∀ (cs ds : List CallR), asks (cs ++ ds) = asks cs ++ asks ds
  | [], ds => rfl
  | c :: cs, ds => by simp [asks, asks_append cs ds]

/-- A call other than Reset. -/
theorem WW.Does.step {a b : WW} {c : CallR} {o : OutW} {z : Wr} {x : List UInt8} (h : a.Does c o b) (h7 : c.kind ≠ 7) (hs : z.Step x a.wr) : z.Step (x ++ ask c) b.wr ∧ b.other = a.other ∧ b.snd = a.snd := by
  unfold WW.Does at h
  unfold ask
  by_cases h0 : c.kind = 0
  · rw [if_pos h0] at h
    obtain ⟨n, s, hw, _, _, rfl⟩ := h
    rw [if_pos (.inl h0)]
    exact ⟨hw.step hs, rfl, rfl⟩
  rw [if_neg h0] at h
  by_cases h1 : c.kind = 1
  · rw [if_pos h1] at h
    obtain ⟨s, hw, _, _, rfl⟩ := h
    rw [if_neg (by omega), if_pos h1]
    exact ⟨hw.step hs, rfl, rfl⟩
  rw [if_neg h1] at h
  by_cases h2 : c.kind = 2
  · rw [if_pos h2] at h
    obtain ⟨n, s, hw, _, _, rfl⟩ := h
    rw [if_neg (by omega), if_neg h1, if_pos h2]
    exact ⟨hw.step hs, rfl, rfl⟩
  rw [if_neg h2] at h
  by_cases h3 : c.kind = 3
  · rw [if_pos h3] at h
    obtain ⟨n, s, hw, _, _, rfl⟩ := h
    rw [if_pos (.inr h3)]
    exact ⟨hw.step hs, rfl, rfl⟩
  rw [if_neg h3] at h
  rw [if_neg (by omega), if_neg h1, if_neg h2, List.append_nil]
  by_cases h4 : c.kind = 4
  · rw [if_pos h4] at h
    obtain ⟨_, rfl⟩ := h
    exact ⟨hs.flush.1, rfl, rfl⟩
  rw [if_neg h4] at h
  have same : b = a → z.Step x b.wr ∧ b.other = a.other ∧ b.snd = a.snd := fun e => by subst e; exact ⟨hs, rfl, rfl⟩
  by_cases h5 : c.kind = 5
  · rw [if_pos h5] at h; exact same h.2
  rw [if_neg h5] at h
  by_cases h6 : c.kind = 6
  · rw [if_pos h6] at h; exact same h.2
  rw [if_neg h6, if_neg h7] at h
  exact same h.2

theorem WW.Runs.step : ∀ {cs : List CallR} {a b : WW} {outs : List OutW} {z : Wr} {x : List UInt8}, a.Runs cs outs b → (∀ c ∈ cs, c.kind ≠ 7) → z.Step x a.wr → z.Step (x ++ asks cs) b.wr ∧ b.other = a.other ∧ b.snd = a.snd
  | [], a, b, outs, z, x, h, _, hs => by obtain ⟨_, rfl⟩ := h; simpa [asks] using hs
  | c :: cs, a, b, outs, z, x, h, hk, hs => by
    obtain ⟨o, r, m, rfl, h1, h2⟩ := h
    obtain ⟨k1, k2, k3⟩ := h1.step (hk c (by simp)) hs
    obtain ⟨k4, k5, k6⟩ := WW.Runs.step h2 (fun c' hc => hk c' (by simp [hc])) k1
    rw [asks, ← List.append_assoc]
    exact ⟨k4, k5.trans k2, k6.trans k3⟩

/-- What a call returns where no error has come. -/
structure Fine (a : WW) (c : CallR) (o : OutW) (b : WW) : Prop where
  before : a.wr.err = false
  err : o.err = 0
  n : c.kind = 0 ∨ c.kind = 2 ∨ c.kind = 3 → o.n = (ask c).length
  z : c.kind < 0 ∨ c.kind = 1 ∨ c.kind = 4 ∨ 7 < c.kind → o.n = 0
  av : c.kind = 5 → o.n = (a.wr.size : Int) - a.wr.buf.length
  bu : c.kind = 6 → o.n = a.wr.buf.length
  fl : c.kind = 4 → b.wr.buf = []
  sz : b.wr.size = a.wr.size

theorem Wr.Wrote.fine {a b : Wr} {x : List UInt8} {n : Nat} (h : a.Wrote x n b) (he : b.err = false) : a.err = false ∧ n = x.length ∧ b.size = a.size := by
  unfold Wr.Wrote at h
  cases ha : a.err with
  | true => rw [ha] at h; obtain ⟨_, rfl⟩ := h; rw [he] at ha; cases ha
  | false => rw [ha] at h; exact ⟨rfl, h.2.1 he, h.2.2.size⟩

theorem WW.Does.fine {a b : WW} {c : CallR} {o : OutW} (h : a.Does c o b) (h7 : c.kind ≠ 7) (hok : a.wr.Ok) (he : b.wr.err = false) : Fine a c o b := by
  unfold WW.Does at h
  by_cases h0 : c.kind = 0
  · rw [if_pos h0] at h
    obtain ⟨n, s, hw, _, rfl, rfl⟩ := h
    obtain ⟨k1, k2, k3⟩ := hw.fine he
    exact ⟨k1, by show errN s.err = 0; rw [show s.err = false from he]; rfl, fun _ => by unfold ask; rw [if_pos (.inl h0), ← k2], (fun h => by omega), (fun h => by omega), (fun h => by omega), (fun h => by omega), k3⟩
  rw [if_neg h0] at h
  by_cases h1 : c.kind = 1
  · rw [if_pos h1] at h
    obtain ⟨s, hw, _, rfl, rfl⟩ := h
    obtain ⟨k1, _, k3⟩ := hw.fine he
    exact ⟨k1, by show errN s.err = 0; rw [show s.err = false from he]; rfl, (fun h => by omega), fun _ => rfl, (fun h => by omega), (fun h => by omega), (fun h => by omega), k3⟩
  rw [if_neg h1] at h
  by_cases h2 : c.kind = 2
  · rw [if_pos h2] at h
    obtain ⟨n, s, hw, _, rfl, rfl⟩ := h
    obtain ⟨k1, k2, k3⟩ := hw.fine he
    exact ⟨k1, by show errN s.err = 0; rw [show s.err = false from he]; rfl, fun _ => by unfold ask; rw [if_neg (by omega), if_neg h1, if_pos h2, ← k2], (fun h => by omega), (fun h => by omega), (fun h => by omega), (fun h => by omega), k3⟩
  rw [if_neg h2] at h
  by_cases h3 : c.kind = 3
  · rw [if_pos h3] at h
    obtain ⟨n, s, hw, _, rfl, rfl⟩ := h
    obtain ⟨k1, k2, k3⟩ := hw.fine he
    exact ⟨k1, by show errN s.err = 0; rw [show s.err = false from he]; rfl, fun _ => by unfold ask; rw [if_pos (.inr h3), ← k2], (fun h => by omega), (fun h => by omega), (fun h => by omega), (fun h => by omega), k3⟩
  rw [if_neg h3] at h
  by_cases h4 : c.kind = 4
  · rw [if_pos h4] at h
    obtain ⟨rfl, rfl⟩ := h
    have he' : a.wr.flush.err = false := he
    have ha : a.wr.err = false := by
      cases hx : a.wr.err with
      | false => rfl
      | true =>
        have e : a.wr.flush = a.wr := by unfold Wr.flush; simp [hx]
        rw [e, hx] at he'; cases he'
    exact ⟨ha, by show errN a.wr.flush.err = 0; rw [he']; rfl, (fun h => by omega), fun _ => rfl, (fun h => by omega), (fun h => by omega), fun _ => (Wr.flush_step hok ha).2 he', (Wr.flush_step hok ha).1.size⟩
  rw [if_neg h4] at h
  by_cases h5 : c.kind = 5
  · rw [if_pos h5] at h
    obtain ⟨rfl, rfl⟩ := h
    exact ⟨he, rfl, (fun h => by omega), (fun h => by omega), fun _ => rfl, (fun h => by omega), (fun h => by omega), rfl⟩
  rw [if_neg h5] at h
  by_cases h6 : c.kind = 6
  · rw [if_pos h6] at h
    obtain ⟨rfl, rfl⟩ := h
    exact ⟨he, rfl, (fun h => by omega), (fun h => by omega), (fun h => by omega), fun _ => rfl, (fun h => by omega), rfl⟩
  rw [if_neg h6, if_neg h7] at h
  obtain ⟨rfl, rfl⟩ := h
  exact ⟨he, rfl, (fun h => by omega), fun _ => rfl, (fun h => by omega), (fun h => by omega), (fun h => by omega), rfl⟩

/-- Writings without an error: all that is returned. -/
theorem WW.Runs.wrote : ∀ {cs : List CallR} {a b : WW} {outs : List OutW} {z : Wr} {x : List UInt8}, a.Runs cs outs b → (∀ c ∈ cs, c.kind = 0 ∨ c.kind = 2 ∨ c.kind = 3) → z.Step x a.wr → b.wr.err = false → a.wr.err = false ∧ outs = cs.map (fun c => ⟨(ask c).length, 0⟩)
  | [], a, b, outs, z, x, h, _, _, he => by obtain ⟨rfl, rfl⟩ := h; exact ⟨he, rfl⟩
  | c :: cs, a, b, outs, z, x, h, hk, hs, he => by
    obtain ⟨o, r, m, rfl, h1, h2⟩ := h
    have hkc := hk c (by simp)
    obtain ⟨k1, _, _⟩ := h1.step (by omega) hs
    obtain ⟨k4, k5⟩ := WW.Runs.wrote h2 (fun c' hc => hk c' (by simp [hc])) k1 he
    have hf := h1.fine (by omega) hs.ok k4
    obtain ⟨on, oe⟩ := o
    have e1 : on = (ask c).length := hf.n hkc
    have e2 : oe = 0 := hf.err
    exact ⟨hf.before, by rw [k5, e1, e2]; rfl⟩
end Go.Proofs.YtjihbkmbbcdnfaaDoor
