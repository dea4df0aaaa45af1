/-
  The plain law of FnWriterAllowed: the documentation's flow beside the writer.
-/
import Derived.Test.YtegbfhfmbjdjiaaDoorPureW9
namespace Go.Proofs.YtegbfhfmbjdjiaaDoor

/-- The documentation's writer: room of its sink, what was accepted, whether a writing has failed, how much was flushed. -/
structure Flow where
  room : Nat
  all : List UInt8
  failed : Bool
  flushed : Nat

/-- When n of the bytes x are taken with an error or none. -/
structure Tk (f : Flow) (x : List UInt8) (n : Nat) (e : Bool) : Prop where
  le : n ≤ x.length
  whole : e = false → n = x.length
  old : f.failed = true → e = true ∧ n = 0
  full : e = true → f.failed = true ∨ f.room < f.all.length + x.length

def Flow.take (f : Flow) (x : List UInt8) (n : Nat) (e : Bool) : Flow := ⟨f.room, f.all ++ x.take n, f.failed || e, f.flushed⟩

structure FlowOk (r : Int) (size : Nat) (f : Flow) (b : Wr) : Prop where
  room : f.room = r.toNat
  fail : f.failed = b.err
  step : ∃ y, (Wr.fresh r size).Step y b ∧ f.all = y.take f.all.length ∧ f.all.length ≤ y.length ∧ (b.err = false → f.all = y)
  fl : f.flushed ≤ b.snk.got.length

def Flow.root (r : Int) : Flow := ⟨r.toNat, [], false, 0⟩
theorem FlowOk.root (r : Int) (size : Nat) (hs : 1 ≤ size ∧ size ≤ 32767) : FlowOk r size (Flow.root r) (Wr.fresh r size) :=
  ⟨rfl, rfl, ⟨[], Wr.Step.refl ⟨hs, Nat.zero_le _⟩ rfl, rfl, Nat.le_refl _, fun _ => rfl⟩, Nat.zero_le _⟩

theorem Wr.Step.fullAt {r : Int} {size : Nat} {y : List UInt8} {b : Wr} (h : (Wr.fresh r size).Step y b) (he : b.err = true) : b.snk.got.length = r.toNat ∧ r.toNat < y.length ∧ b.snk.got = y.take b.snk.got.length := by
  obtain ⟨c1, c2, c3⟩ := h.cut he
  have h1 := h.room
  have h2 := h.low
  simp only [Wr.fresh, List.nil_append, List.length_nil] at c1 c2 c3 h1 h2
  have hl : b.snk.got.length = r.toNat := by omega
  exact ⟨hl, by omega, c3⟩

theorem FlowOk.wrote {r : Int} {size : Nat} {f : Flow} {a b : Wr} {x : List UInt8} {n : Nat} (h : FlowOk r size f a) (hw : a.Wrote x n b) : Tk f x n b.err ∧ FlowOk r size (f.take x n b.err) b := by
  obtain ⟨hr, hf, ⟨y, hs, hp, hpl, hy⟩, hfl⟩ := h
  have hst := hw.step hs
  unfold Wr.Wrote at hw
  cases he : a.err with
  | true =>
    rw [he] at hw hf
    obtain ⟨rfl, rfl⟩ := hw
    refine ⟨⟨Nat.zero_le _, (fun e => by rw [he] at e; cases e), fun _ => ⟨he, rfl⟩, fun _ => .inl hf⟩, ⟨hr, by simp [Flow.take, he], ⟨y ++ x, hst, ?_, ?_, (fun e => by rw [he] at e; cases e)⟩, hfl⟩⟩
    · simp only [Flow.take, List.take_zero, List.append_nil]
      rw [List.take_append_of_le_length hpl]; exact hp
    · simp only [Flow.take, List.take_zero, List.append_nil, List.length_append]; omega
  | false =>
    rw [he] at hw hf
    obtain ⟨w1, w2, w3⟩ := hw
    have hay := hy he
    have hlt : (x.take n).length = n := by simp; omega
    refine ⟨⟨w1, w2, (fun e => by rw [hf] at e; cases e), fun e => .inr ?_⟩, ⟨hr, by simp [Flow.take, hf], ⟨y ++ x, hst, ?_, ?_, fun e => ?_⟩, Nat.le_trans hfl w3.grow⟩⟩
    · have := (hst.fullAt e).2.1
      rw [hr, hay]; simpa using this
    · simp only [Flow.take]
      rw [hay, List.length_append, hlt, List.take_length_add_append]
    · simp only [Flow.take]
      rw [hay, List.length_append, hlt, List.length_append]; omega
    · simp only [Flow.take]
      rw [hay, w2 e, List.take_length]

def Flow.flush (f : Flow) (e : Bool) : Flow := if e then { f with failed := true } else { f with flushed := f.all.length }

theorem FlowOk.flush {r : Int} {size : Nat} {f : Flow} {a : Wr} (h : FlowOk r size f a) :
    FlowOk r size (f.flush a.flush.err) a.flush ∧ (a.flush.err = false → f.failed = false ∧ f.all.length ≤ f.room) ∧ (a.flush.err = true → f.failed = true ∨ f.room < f.all.length) := by
  obtain ⟨hr, hf, ⟨y, hs, hp, hpl, hy⟩, hfl⟩ := h
  obtain ⟨s1, s2⟩ := hs.flush
  have hst : a.err = true → a.flush.err = true := Wr.flush_sticky
  have hgrow : a.snk.got.length ≤ a.flush.snk.got.length := by
    cases he : a.err with
    | true =>
      have e : a.flush = a := by unfold Wr.flush; simp [he]
      rw [e]; exact Nat.le_refl _
    | false => exact (Wr.flush_step hs.ok he).1.grow
  cases he : a.flush.err with
  | true =>
    obtain ⟨e1, e2, e3⟩ := s1.fullAt he
    refine ⟨⟨by simpa [Flow.flush] using hr, by simp [Flow.flush, he], ⟨y, s1, by simpa [Flow.flush] using hp, by simpa [Flow.flush] using hpl, fun e => by rw [he] at e; cases e⟩, by simp [Flow.flush]; omega⟩, (fun e => by cases e), fun _ => ?_⟩
    cases ha : a.err with
    | true => left; rw [hf, ha]
    | false => right; rw [hr, hy ha]; exact e2
  | false =>
    have ha : a.err = false := by
      cases hx : a.err with
      | false => rfl
      | true => have := hst hx; rw [he] at this; cases this
    have hay := hy ha
    have hall := s1.all he
    rw [s2 he] at hall
    simp only [Wr.fresh, List.nil_append, List.append_nil] at hall
    have h1 := s1.room
    have h2 := s1.low
    simp only [Wr.fresh, List.length_nil] at h1 h2
    rw [hall] at h1
    refine ⟨⟨by simpa [Flow.flush] using hr, by simp [Flow.flush, hf, ha, he], ⟨y, s1, by simpa [Flow.flush] using hp, by simpa [Flow.flush] using hpl, fun _ => by simpa [Flow.flush] using hay⟩, by simp [Flow.flush]; rw [hall, hay]; exact Nat.le_refl _⟩, fun _ => ⟨by rw [hf, ha], by rw [hr, hay]; omega⟩, (fun e => by cases e)⟩

theorem FlowOk.held {r : Int} {size : Nat} {f : Flow} {a : Wr} (h : FlowOk r size f a) : a.buf.length ≤ size ∧ a.size = size ∧ (f.failed = false → a.buf.length + f.flushed ≤ f.all.length) := by
  obtain ⟨hr, hf, ⟨y, hs, hp, hpl, hy⟩, hfl⟩ := h
  have h1 := hs.ok.buf
  have h2 := hs.size
  rw [h2] at h1
  refine ⟨h1, h2, fun e => ?_⟩
  rw [hf] at e
  have hall := hs.all e
  simp only [Wr.fresh, List.nil_append] at hall
  rw [hy e, ← hall, List.length_append]; omega

/-- What a sink can have in the end. -/
structure GotOk (f : Flow) (size : Nat) (x : List UInt8) : Prop where
  le : x.length ≤ f.room
  fl : f.flushed ≤ x.length
  bad : f.failed = true → x.length = f.room ∧ ∀ k, k = min f.all.length x.length → f.all.take k = x.take k
  good : f.failed = false → x = f.all.take x.length ∧ x.length ≤ f.all.length ∧ f.all.length - x.length ≤ size

theorem FlowOk.gotOk {r : Int} {size : Nat} {f : Flow} {a : Wr} (h : FlowOk r size f a) : GotOk f size a.snk.got := by
  have hh := h.held
  obtain ⟨hr, hf, ⟨y, hs, hp, hpl, hy⟩, hfl⟩ := h
  obtain ⟨b1, b2, b3⟩ := hs.begin
  refine ⟨by rw [hr]; exact b3, hfl, fun e => ?_, fun e => ?_⟩
  · rw [hf] at e
    obtain ⟨e1, e2, e3⟩ := hs.fullAt e
    refine ⟨by rw [hr]; exact e1, fun k hk => ?_⟩
    rw [hp, e3, List.take_take, List.take_take]
    congr 1
    omega
  · rw [hf] at e
    have hall := hs.all e
    simp only [Wr.fresh, List.nil_append] at hall
    rw [hy e]
    have : y.length = a.snk.got.length + a.buf.length := by rw [← hall, List.length_append]
    exact ⟨b1, b2, by omega⟩

/-- What of calls and their results the documentation's flow becomes. -/
def Flow.next (f : Flow) (c : CallR) (o : OutW) : Flow :=
  if c.kind = 0 ∨ c.kind = 3 then f.take c.bytes o.n.toNat (decide (o.err ≠ 0))
  else if c.kind = 1 then f.take [c.delim] (if o.err = 0 then 1 else 0) (decide (o.err ≠ 0))
  else if c.kind = 2 then f.take (runeB (i32of c.n)) o.n.toNat (decide (o.err ≠ 0))
  else if c.kind = 4 then f.flush (decide (o.err ≠ 0))
  else f

theorem errN_ne (e : Bool) : decide (errN e ≠ 0) = e := by cases e <;> rfl

/-- What the walk of next wants to know. -/
structure NextOk (f : Flow) (size : Nat) (c : CallR) (o : OutW) : Prop where
  err : o.err = 0 ∨ o.err = 9
  wr : c.kind = 0 ∨ c.kind = 3 → ∃ n : Nat, o.n = n ∧ Tk f c.bytes n (decide (o.err ≠ 0))
  by1 : c.kind = 1 → Tk f [c.delim] (if o.err = 0 then 1 else 0) (decide (o.err ≠ 0))
  ru : c.kind = 2 → ∃ n : Nat, o.n = n ∧ Tk f (runeB (i32of c.n)) n (decide (o.err ≠ 0))
  fl0 : c.kind = 4 → o.err = 0 → f.failed = false ∧ f.all.length ≤ f.room
  fl9 : c.kind = 4 → o.err = 9 → f.failed = true ∨ f.room < f.all.length
  av : c.kind = 5 → 0 ≤ o.n ∧ o.n ≤ size ∧ (f.failed = false → (size : Int) - o.n ≤ f.all.length - f.flushed)
  bu : c.kind = 6 → 0 ≤ o.n ∧ o.n ≤ size ∧ (f.failed = false → o.n ≤ f.all.length - f.flushed)

theorem errN_or (e : Bool) : errN e = 0 ∨ errN e = 9 := by cases e <;> simp [errN]

theorem FlowOk.next {r : Int} {size : Nat} {f : Flow} {a b : WW} {c : CallR} {o : OutW} (h : FlowOk r size f a.wr) (hd : a.Does c o b) (h7 : c.kind ≠ 7) : NextOk f size c o ∧ FlowOk r size (f.next c o) b.wr ∧ b.other = a.other ∧ b.snd = a.snd := by
  obtain ⟨hh1, hh2, hh3⟩ := h.held
  have hfll := h.fl
  unfold WW.Does at hd
  unfold Flow.next
  by_cases h0 : c.kind = 0
  · rw [if_pos h0] at hd
    obtain ⟨n, s, hw, _, rfl, rfl⟩ := hd
    obtain ⟨k1, k2⟩ := h.wrote hw
    rw [if_pos (.inl h0)]
    simp only [errN_ne, Int.toNat_natCast]
    exact ⟨⟨errN_or _, fun _ => ⟨n, rfl, by simpa only [errN_ne] using k1⟩, (fun e => by omega), (fun e => by omega), (fun e => by omega), (fun e => by omega), (fun e => by omega), (fun e => by omega)⟩, k2, (by first | rfl | trivial), (by first | rfl | trivial)⟩
  rw [if_neg h0] at hd
  by_cases h1 : c.kind = 1
  · rw [if_pos h1] at hd
    obtain ⟨s, hw, _, rfl, rfl⟩ := hd
    obtain ⟨k1, k2⟩ := h.wrote hw
    have e1 : (if errN s.err = 0 then 1 else 0) = (if s.err = true then 0 else 1) := by cases s.err <;> simp [errN]
    rw [if_neg (by omega), if_pos h1]
    simp only [errN_ne, e1]
    exact ⟨⟨errN_or _, (fun e => by omega), fun _ => by simpa only [errN_ne, e1] using k1, (fun e => by omega), (fun e => by omega), (fun e => by omega), (fun e => by omega), (fun e => by omega)⟩, k2, (by first | rfl | trivial), (by first | rfl | trivial)⟩
  rw [if_neg h1] at hd
  by_cases h2 : c.kind = 2
  · rw [if_pos h2] at hd
    obtain ⟨n, s, hw, _, rfl, rfl⟩ := hd
    obtain ⟨k1, k2⟩ := h.wrote hw
    rw [if_neg (by omega), if_neg h1, if_pos h2]
    simp only [errN_ne, Int.toNat_natCast]
    exact ⟨⟨errN_or _, (fun e => by omega), (fun e => by omega), fun _ => ⟨n, rfl, by simpa only [errN_ne] using k1⟩, (fun e => by omega), (fun e => by omega), (fun e => by omega), (fun e => by omega)⟩, k2, (by first | rfl | trivial), (by first | rfl | trivial)⟩
  rw [if_neg h2] at hd
  by_cases h3 : c.kind = 3
  · rw [if_pos h3] at hd
    obtain ⟨n, s, hw, _, rfl, rfl⟩ := hd
    obtain ⟨k1, k2⟩ := h.wrote hw
    rw [if_pos (.inr h3)]
    simp only [errN_ne, Int.toNat_natCast]
    exact ⟨⟨errN_or _, fun _ => ⟨n, rfl, by simpa only [errN_ne] using k1⟩, (fun e => by omega), (fun e => by omega), (fun e => by omega), (fun e => by omega), (fun e => by omega), (fun e => by omega)⟩, k2, (by first | rfl | trivial), (by first | rfl | trivial)⟩
  rw [if_neg h3] at hd
  rw [if_neg (by omega), if_neg h1, if_neg h2]
  by_cases h4 : c.kind = 4
  · rw [if_pos h4] at hd ⊢
    obtain ⟨rfl, rfl⟩ := hd
    obtain ⟨k1, k2, k3⟩ := h.flush
    simp only [errN_ne]
    refine ⟨⟨errN_or _, (fun e => by omega), (fun e => by omega), (fun e => by omega), fun _ e => k2 ?_, fun _ e => k3 ?_, (fun e => by omega), (fun e => by omega)⟩, k1, (by first | rfl | trivial), (by first | rfl | trivial)⟩
    · cases hx : a.wr.flush.err with
      | false => rfl
      | true => rw [hx] at e; simp [errN] at e
    · cases hx : a.wr.flush.err with
      | true => rfl
      | false => rw [hx] at e; simp [errN] at e
  rw [if_neg h4] at hd ⊢
  by_cases h5 : c.kind = 5
  · rw [if_pos h5] at hd
    obtain ⟨rfl, rfl⟩ := hd
    refine ⟨⟨.inl rfl, (fun e => by omega), (fun e => by omega), (fun e => by omega), (fun e => by omega), (fun e => by omega), fun _ => ⟨?_, ?_, fun e => ?_⟩, (fun e => by omega)⟩, h, rfl, rfl⟩
    · show (0 : Int) ≤ (b.wr.size : Int) - b.wr.buf.length; omega
    · show (b.wr.size : Int) - b.wr.buf.length ≤ size; omega
    · have := hh3 e
      show (size : Int) - ((b.wr.size : Int) - b.wr.buf.length) ≤ _; omega
  rw [if_neg h5] at hd
  by_cases h6 : c.kind = 6
  · rw [if_pos h6] at hd
    obtain ⟨rfl, rfl⟩ := hd
    refine ⟨⟨.inl rfl, (fun e => by omega), (fun e => by omega), (fun e => by omega), (fun e => by omega), (fun e => by omega), (fun e => by omega), fun _ => ⟨?_, ?_, fun e => ?_⟩⟩, h, rfl, rfl⟩
    · show (0 : Int) ≤ (b.wr.buf.length : Int); omega
    · show (b.wr.buf.length : Int) ≤ size; omega
    · have := hh3 e
      show (b.wr.buf.length : Int) ≤ _; omega
  rw [if_neg h6, if_neg h7] at hd
  obtain ⟨rfl, rfl⟩ := hd
  exact ⟨⟨.inl rfl, (fun e => by omega), (fun e => by omega), (fun e => by omega), (fun e => by omega), (fun e => by omega), (fun e => by omega), (fun e => by omega)⟩, h, rfl, rfl⟩

theorem Flow.next_len (f : Flow) (c : CallR) (o : OutW) : (f.next c o).all.length ≤ f.all.length + (c.bytes.length + 4) := by
  have hr := runeB_length (i32of c.n)
  unfold Flow.next
  split
  · simp [Flow.take]; omega
  · split
    · simp [Flow.take]; omega
    · split
      · simp [Flow.take]; omega
      · split
        · unfold Flow.flush; split <;> simp
        · omega

/-- The states of a run. -/
theorem WW.Runs.states : ∀ {cs : List CallR} {a b : WW} {outs : List OutW}, a.Runs cs outs b → ∃ m : Nat → WW, m 0 = a ∧ m cs.length = b ∧ ∀ (k : Nat) (c : CallR) (o : OutW), cs[k]? = some c → outs[k]? = some o → (m k).Does c o (m (k + 1))
  | [], a, b, outs, h => by
    obtain ⟨rfl, rfl⟩ := h
    exact ⟨fun _ => b, rfl, rfl, fun k c o hc => by simp at hc⟩
  | c :: cs, a, b, outs, h => by
    obtain ⟨o, r, m, rfl, h1, h2⟩ := h
    obtain ⟨s, s0, s1, s2⟩ := WW.Runs.states h2
    refine ⟨fun i => match i with | 0 => a | i + 1 => s i, rfl, s1, fun k c' o' hc ho => ?_⟩
    cases k with
    | zero =>
      simp only [List.getElem?_cons_zero, Option.some.injEq] at hc ho
      subst hc ho
      show a.Does c o (s 0)
      rw [s0]; exact h1
    | succ k => exact s2 k c' o' (by simpa using hc) (by simpa using ho)

theorem WW.Does.second {a b : WW} {c : CallR} {o : OutW} (h : a.Does c o b) (hs : a.snd = true) : b.snd = true ∧ b.other = a.other := by
  unfold WW.Does at h
  repeat' split at h
  all_goals first
    | (obtain ⟨n, s, _, _, _, rfl⟩ := h; exact ⟨hs, rfl⟩)
    | (obtain ⟨s, _, _, _, rfl⟩ := h; exact ⟨hs, rfl⟩)
    | (obtain ⟨_, rfl⟩ := h; first | exact ⟨hs, rfl⟩ | (unfold WW.reset; rw [hs]; exact ⟨rfl, rfl⟩))

/-- Where the documentation's flow is, k calls having been looked at. -/
def AState (r1 r2 : Int) (size : Nat) (fin : WW) (rho : Nat) (f : Flow) (s : WW) : Prop :=
  (rho = 0 ∧ s.snd = false ∧ s.other = ⟨r2, []⟩ ∧ FlowOk r1 size f s.wr) ∨ (rho = 1 ∧ s.snd = true ∧ FlowOk r2 size f s.wr) ∨ (2 ≤ rho ∧ s.snd = true)

theorem AState.first {r1 r2 : Int} {size : Nat} {fin s : WW} {f : Flow} (h : AState r1 r2 size fin 0 f s) : s.snd = false ∧ s.other = ⟨r2, []⟩ ∧ FlowOk r1 size f s.wr := by
  rcases h with ⟨_, h1, h2, h3⟩ | ⟨h, _⟩ | ⟨h, _⟩
  · exact ⟨h1, h2, h3⟩
  · omega
  · omega

theorem AState.second {r1 r2 : Int} {size : Nat} {fin s : WW} {f : Flow} (h : AState r1 r2 size fin 1 f s) : s.snd = true ∧ FlowOk r2 size f s.wr := by
  rcases h with ⟨h, _⟩ | ⟨_, h1, h2⟩ | ⟨h, _⟩
  · omega
  · exact ⟨h1, h2⟩
  · omega

/-- A call other than Reset. -/
theorem AState.next {r1 r2 : Int} {size rho : Nat} {fin s s' : WW} {f : Flow} {c : CallR} {o : OutW} (h : AState r1 r2 size fin rho f s) (hd : s.Does c o s') (h7 : c.kind ≠ 7) (hr : rho ≤ 1) : NextOk f size c o ∧ AState r1 r2 size fin rho (f.next c o) s' := by
  rcases h with ⟨h0, h1, h2, h3⟩ | ⟨h0, h1, h2⟩ | ⟨h0, _⟩
  · obtain ⟨k1, k2, k3, k4⟩ := h3.next hd h7
    exact ⟨k1, .inl ⟨h0, by rw [k4, h1], by rw [k3, h2], k2⟩⟩
  · obtain ⟨k1, k2, k3, k4⟩ := h2.next hd h7
    exact ⟨k1, .inr (.inl ⟨h0, by rw [k4, h1], k2⟩)⟩
  · omega

theorem AState.skip {r1 r2 : Int} {size rho : Nat} {fin s s' : WW} {f : Flow} {c : CallR} {o : OutW} (h : AState r1 r2 size fin rho f s) (hd : s.Does c o s') (hr : 2 ≤ rho) : AState r1 r2 size fin rho f s' := by
  rcases h with ⟨h0, _⟩ | ⟨h0, _⟩ | ⟨h0, h1⟩
  · omega
  · omega
  · exact .inr (.inr ⟨h0, (hd.second h1).1⟩)

theorem WW.Does.reset {a b : WW} {c : CallR} {o : OutW} (h : a.Does c o b) (h7 : c.kind = 7) : b = a.reset := by
  unfold WW.Does at h
  rw [if_neg (by omega), if_neg (by omega), if_neg (by omega), if_neg (by omega), if_neg (by omega), if_neg (by omega), if_neg (by omega), if_pos h7] at h
  exact h.2

/-- Reset. -/
theorem AState.reset {r1 r2 : Int} {size rho : Nat} {fin s s' : WW} {f : Flow} {c : CallR} {o : OutW} (hs : 1 ≤ size ∧ size ≤ 32767) (h : AState r1 r2 size fin rho f s) (hd : s.Does c o s') (h7 : c.kind = 7) : AState r1 r2 size fin (rho + 1) (Flow.root r2) s' := by
  have hb := hd.reset h7
  rcases h with ⟨h0, h1, h2, h3⟩ | ⟨h0, h1, h2⟩ | ⟨h0, h1⟩
  · refine .inr (.inl ⟨by omega, ?_, ?_⟩)
    · rw [hb]; unfold WW.reset; rw [h1]; rfl
    · rw [hb]
      unfold WW.reset
      rw [h1, h2]
      have := FlowOk.root r2 size hs
      have e : s.wr.size = size := h3.held.2.1
      simpa [e, Wr.fresh] using this
  · exact .inr (.inr ⟨by omega, (hd.second h1).1⟩)
  · exact .inr (.inr ⟨by omega, (hd.second h1).1⟩)

/-- The first sink behind the first Reset. -/
theorem states_keep {m : Nat → WW} {cs : List CallR} {outs : List OutW} (hl : outs.length = cs.length) (hm : ∀ (k : Nat) (c : CallR) (o : OutW), cs[k]? = some c → outs[k]? = some o → (m k).Does c o (m (k + 1))) (k : Nat) (hs : (m k).snd = true) :
    ∀ d, k + d ≤ cs.length → (m (k + d)).snd = true ∧ (m (k + d)).other = (m k).other := by
  intro d
  induction d with
  | zero => intro _; exact ⟨hs, rfl⟩
  | succ d ih =>
    intro hd
    obtain ⟨i1, i2⟩ := ih (by omega)
    have := hm (k + d) _ _ (List.getElem?_eq_getElem (by omega)) (List.getElem?_eq_getElem (by omega))
    obtain ⟨j1, j2⟩ := this.second i1
    exact ⟨j1, j2.trans i2⟩

theorem reset_got1 {m : Nat → WW} {cs : List CallR} {outs : List OutW} {c : CallR} {o : OutW} {k : Nat} (hl : outs.length = cs.length) (hm : ∀ (k : Nat) (c : CallR) (o : OutW), cs[k]? = some c → outs[k]? = some o → (m k).Does c o (m (k + 1)))
    (hc : cs[k]? = some c) (ho : outs[k]? = some o) (h7 : c.kind = 7) (hs : (m k).snd = false) : (m cs.length).got1 = (m k).wr.snk.got := by
  have hb := (hm k c o hc ho).reset h7
  have hk : k < cs.length := (List.getElem?_eq_some_iff.1 hc).1
  have h1 : (m (k + 1)).snd = true := by rw [hb]; unfold WW.reset; rw [hs]; rfl
  have h2 : (m (k + 1)).other = (m k).wr.snk := by rw [hb]; unfold WW.reset; rw [hs]; rfl
  obtain ⟨j1, j2⟩ := states_keep hl hm (k + 1) h1 (cs.length - (k + 1)) (by omega)
  rw [show k + 1 + (cs.length - (k + 1)) = cs.length by omega] at j1 j2
  unfold WW.got1
  rw [j1, j2, h2]
  rfl
end Go.Proofs.YtegbfhfmbjdjiaaDoor
