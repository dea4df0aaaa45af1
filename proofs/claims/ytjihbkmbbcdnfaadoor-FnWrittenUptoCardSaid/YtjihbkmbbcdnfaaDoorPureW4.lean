/-
  Runs of calls of a writer in plain words. No program in sight but for the words of a call.
-/
import Derived.Test.YtjihbkmbbcdnfaaDoorRun1
import Derived.Test.YtjihbkmbbcdnfaaDoorPureW2
namespace Go.Proofs.YtjihbkmbbcdnfaaDoor

def WW.start (r1 r2 : Int) (size : Nat) : WW := ⟨Wr.fresh r1 size, ⟨r2, []⟩, false⟩

/-- Calls, one after another. -/
def WW.Runs (a : WW) : List CallR → List OutW → WW → Prop
  | [], outs, b => outs = [] ∧ b = a
  | c :: cs, outs, b => ∃ o r m, outs = o :: r ∧ a.Does c o m ∧ WW.Runs m cs r b

theorem WW.Runs.snoc {c : CallR} {o : OutW} {b d : WW} : ∀ {cs : List CallR} {a : WW} {outs : List OutW}, a.Runs cs outs b → b.Does c o d → a.Runs (cs ++ [c]) (outs ++ [o]) d
  | [], a, outs, h, hd => by
    obtain ⟨rfl, rfl⟩ := h
    exact ⟨o, [], d, rfl, hd, rfl, rfl⟩
  | c' :: cs, a, outs, h, hd => by
    obtain ⟨o', r, m, rfl, h1, h2⟩ := h
    exact ⟨o', r ++ [o], m, rfl, h1, WW.Runs.snoc h2 hd⟩

theorem WW.Runs.length : ∀ {cs : List CallR} {a b : WW} {outs : List OutW}, a.Runs cs outs b → outs.length = cs.length
  | [], a, b, outs, h => by rw [h.1]; rfl
  | c' :: cs, a, b, outs, h => by
    obtain ⟨o', r, m, rfl, h1, h2⟩ := h
    simp [WW.Runs.length h2]

/-- A run is parted where its calls are. -/
theorem WW.Runs.split : ∀ {cs ds : List CallR} {a b : WW} {outs : List OutW}, a.Runs (cs ++ ds) outs b → ∃ o1 o2 m, outs = o1 ++ o2 ∧ a.Runs cs o1 m ∧ m.Runs ds o2 b
  | [], ds, a, b, outs, h => ⟨[], outs, a, rfl, ⟨rfl, rfl⟩, h⟩
  | c :: cs, ds, a, b, outs, h => by
    obtain ⟨o, r, m, rfl, h1, h2⟩ := h
    obtain ⟨o1, o2, m2, rfl, h3, h4⟩ := WW.Runs.split h2
    exact ⟨o :: o1, o2, m2, rfl, ⟨o, o1, m, rfl, h1, h3⟩, h4⟩

/-- How much calls can write. -/
def callsW : List CallR → Nat
  | [] => 0
  | c :: cs => c.bytes.length + 4 + callsW cs

theorem callsW_append : ∀ (cs ds : List CallR), callsW (cs ++ ds) = callsW cs + callsW ds
  | [], ds => by simp [callsW]
  | c :: cs, ds => by simp [callsW, callsW_append cs ds]; omega

theorem callsW_take (cs : List CallR) (k : Nat) : callsW (cs.take k) ≤ callsW cs := by
  have h := callsW_append (cs.take k) (cs.drop k)
  rw [List.take_append_drop] at h
  omega

theorem callsW_take_succ {cs : List CallR} {k : Nat} {c : CallR} (h : cs[k]? = some c) : cs.take (k + 1) = cs.take k ++ [c] ∧ callsW (cs.take (k + 1)) = callsW (cs.take k) + (c.bytes.length + 4) := by
  have e : cs.take (k + 1) = cs.take k ++ [c] := by rw [List.take_add_one, h]; rfl
  exact ⟨e, by rw [e, callsW_append]; simp [callsW]⟩

/-- A writer whose numbers are in bounds, T bytes having been asked for. -/
structure WW.Ok (a : WW) (T : Nat) : Prop where
  fits : a.wr.Fits
  r1 : -9223372036854775807 ≤ a.other.room + 1
  r2 : a.other.room ≤ 9223372036854775807
  l1 : a.wr.snk.got.length + a.wr.buf.length ≤ T
  l2 : a.other.got.length ≤ T

theorem Wr.Wrote.keeps {a b : Wr} {x : List UInt8} {n : Nat} (h : a.Wrote x n b) (hf : a.Fits) (hl : a.snk.got.length + a.buf.length + x.length ≤ 140737488355328) : b.Fits ∧ b.snk.got.length + b.buf.length ≤ a.snk.got.length + a.buf.length + x.length ∧ b.size = a.size := by
  unfold Wr.Wrote at h
  cases he : a.err with
  | true =>
    rw [he] at h
    obtain ⟨_, rfl⟩ := h
    exact ⟨hf, by omega, rfl⟩
  | false =>
    rw [he] at h
    exact ⟨hf.step h.2.2 hl, h.2.2.len, h.2.2.size⟩

theorem Wr.flush_keeps {a : Wr} (hf : a.Fits) : a.flush.Fits ∧ a.flush.snk.got.length + a.flush.buf.length ≤ a.snk.got.length + a.buf.length ∧ a.flush.size = a.size := by
  cases he : a.err with
  | true =>
    have e : a.flush = a := by unfold Wr.flush; simp [he]
    rw [e]
    exact ⟨hf, Nat.le_refl _, rfl⟩
  | false =>
    have h := (Wr.flush_step hf.ok he).1
    have hl := hf.len
    exact ⟨hf.step h (by simp; omega), by have := h.len; simpa using this, h.size⟩

theorem WW.Does.keeps {a b : WW} {c : CallR} {o : OutW} {T : Nat} (h : a.Does c o b) (hk : a.Ok T) (hl : T + (c.bytes.length + 4) ≤ 140737488355328) : b.Ok (T + (c.bytes.length + 4)) ∧ b.wr.size = a.wr.size := by
  have l1 := hk.l1
  have l2 := hk.l2
  have wrote : ∀ {x : List UInt8} {n : Nat} {s : Wr}, a.wr.Wrote x n s → x.length ≤ c.bytes.length + 4 → b = { a with wr := s } → b.Ok (T + (c.bytes.length + 4)) ∧ b.wr.size = a.wr.size := by
    intro x n s hw hx hb
    obtain ⟨k1, k2, k3⟩ := hw.keeps hk.fits (by omega)
    subst hb
    exact ⟨⟨k1, hk.r1, hk.r2, by show s.snk.got.length + s.buf.length ≤ _; omega, by show a.other.got.length ≤ _; omega⟩, k3⟩
  have same : b = a → b.Ok (T + (c.bytes.length + 4)) ∧ b.wr.size = a.wr.size := fun e => by
    subst e
    exact ⟨⟨hk.fits, hk.r1, hk.r2, by omega, by omega⟩, rfl⟩
  unfold WW.Does at h
  by_cases h0 : c.kind = 0
  · rw [if_pos h0] at h
    obtain ⟨n, s, hw, _, _, hb⟩ := h
    exact wrote hw (by omega) hb
  rw [if_neg h0] at h
  by_cases h1 : c.kind = 1
  · rw [if_pos h1] at h
    obtain ⟨s, hw, _, _, hb⟩ := h
    exact wrote hw (by simp) hb
  rw [if_neg h1] at h
  by_cases h2 : c.kind = 2
  · rw [if_pos h2] at h
    obtain ⟨n, s, hw, _, _, hb⟩ := h
    exact wrote hw (by have := runeB_length (i32of c.n); omega) hb
  rw [if_neg h2] at h
  by_cases h3 : c.kind = 3
  · rw [if_pos h3] at h
    obtain ⟨n, s, hw, _, _, hb⟩ := h
    exact wrote hw (by omega) hb
  rw [if_neg h3] at h
  by_cases h4 : c.kind = 4
  · rw [if_pos h4] at h
    obtain ⟨_, rfl⟩ := h
    obtain ⟨k1, k2, k3⟩ := Wr.flush_keeps hk.fits
    exact ⟨⟨k1, hk.r1, hk.r2, by show a.wr.flush.snk.got.length + a.wr.flush.buf.length ≤ _; omega, by show a.other.got.length ≤ _; omega⟩, k3⟩
  rw [if_neg h4] at h
  by_cases h5 : c.kind = 5
  · rw [if_pos h5] at h; exact same h.2
  rw [if_neg h5] at h
  by_cases h6 : c.kind = 6
  · rw [if_pos h6] at h; exact same h.2
  rw [if_neg h6] at h
  by_cases h7 : c.kind = 7
  · rw [if_pos h7] at h
    obtain ⟨_, rfl⟩ := h
    have hs := hk.fits.ok.size
    unfold WW.reset
    cases a.snd with
    | true => exact ⟨⟨⟨⟨hs, Nat.zero_le _⟩, hk.fits.r1, hk.fits.r2, by show a.wr.snk.got.length + 0 ≤ _; omega⟩, hk.r1, hk.r2, by show a.wr.snk.got.length + 0 ≤ _; omega, by show a.other.got.length ≤ _; omega⟩, rfl⟩
    | false => exact ⟨⟨⟨⟨hs, Nat.zero_le _⟩, hk.r1, hk.r2, by show a.other.got.length + 0 ≤ _; omega⟩, hk.fits.r1, hk.fits.r2, by show a.other.got.length + 0 ≤ _; omega, by show a.wr.snk.got.length ≤ _; omega⟩, rfl⟩
  rw [if_neg h7] at h
  exact same h.2

theorem WW.Runs.keeps : ∀ {cs : List CallR} {a b : WW} {outs : List OutW} {T : Nat}, a.Runs cs outs b → a.Ok T → T + callsW cs ≤ 140737488355328 → b.Ok (T + callsW cs) ∧ b.wr.size = a.wr.size
  | [], a, b, outs, T, h, hk, _ => by obtain ⟨_, rfl⟩ := h; exact ⟨hk, rfl⟩
  | c :: cs, a, b, outs, T, h, hk, hl => by
    obtain ⟨o, r, m, rfl, h1, h2⟩ := h
    simp only [callsW] at hl ⊢
    obtain ⟨k1, k2⟩ := h1.keeps hk (by omega)
    obtain ⟨k3, k4⟩ := WW.Runs.keeps h2 k1 (by omega)
    rw [show T + (c.bytes.length + 4 + callsW cs) = T + (c.bytes.length + 4) + callsW cs by omega]
    exact ⟨k3, k4.trans k2⟩

theorem WW.start_ok (r1 r2 : Int) (size : Nat) (h : 1 ≤ size ∧ size ≤ 32767) (a1 : -9223372036854775807 ≤ r1 + 1) (a2 : r1 ≤ 9223372036854775807) (b1 : -9223372036854775807 ≤ r2 + 1) (b2 : r2 ≤ 9223372036854775807) : (WW.start r1 r2 size).Ok 0 :=
  ⟨Wr.fresh_fits r1 size h a1 a2, b1, b2, Nat.le_refl _, Nat.le_refl _⟩

/-- What the first and the second sink have. -/
def WW.got1 (a : WW) : List UInt8 := if a.snd then a.other.got else a.wr.snk.got
def WW.got2 (a : WW) : List UInt8 := if a.snd then a.wr.snk.got else a.other.got
end Go.Proofs.YtjihbkmbbcdnfaaDoor
