/-
  The plain law of FnSticky: the errors of a run are one row of flags that never fall.
-/
import Derived.Test.YtjihbkmbbcdnfaaDoorPureW6
namespace Go.Proofs.YtjihbkmbbcdnfaaDoor

theorem Wr.Wrote.sticky {a b : Wr} {x : List UInt8} {n : Nat} (h : a.Wrote x n b) (he : a.err = true) : b.err = true := by
  unfold Wr.Wrote at h
  rw [he] at h
  obtain ⟨_, rfl⟩ := h
  exact he

theorem Wr.flush_sticky {a : Wr} (he : a.err = true) : a.flush.err = true := by
  have e : a.flush = a := by unfold Wr.flush; simp [he]
  rw [e]; exact he

theorem WW.Does.errs {a b : WW} {c : CallR} {o : OutW} (h : a.Does c o b) (hk : 0 ≤ c.kind ∧ c.kind ≤ 4) : o.err = errN b.wr.err ∧ (a.wr.err = true → b.wr.err = true) := by
  unfold WW.Does at h
  by_cases h0 : c.kind = 0
  · rw [if_pos h0] at h
    obtain ⟨n, s, hw, _, rfl, rfl⟩ := h
    exact ⟨rfl, hw.sticky⟩
  rw [if_neg h0] at h
  by_cases h1 : c.kind = 1
  · rw [if_pos h1] at h
    obtain ⟨s, hw, _, rfl, rfl⟩ := h
    exact ⟨rfl, hw.sticky⟩
  rw [if_neg h1] at h
  by_cases h2 : c.kind = 2
  · rw [if_pos h2] at h
    obtain ⟨n, s, hw, _, rfl, rfl⟩ := h
    exact ⟨rfl, hw.sticky⟩
  rw [if_neg h2] at h
  by_cases h3 : c.kind = 3
  · rw [if_pos h3] at h
    obtain ⟨n, s, hw, _, rfl, rfl⟩ := h
    exact ⟨rfl, hw.sticky⟩
  rw [if_neg h3, if_pos (show c.kind = 4 by omega)] at h
  obtain ⟨rfl, rfl⟩ := h
  exact ⟨rfl, Wr.flush_sticky⟩

theorem WW.Runs.errs : ∀ {cs : List CallR} {a b : WW} {outs : List OutW}, a.Runs cs outs b → (∀ c ∈ cs, 0 ≤ c.kind ∧ c.kind ≤ 4) →
    ∃ e : Nat → Bool, e 0 = a.wr.err ∧ e cs.length = b.wr.err ∧ (∀ i, i < cs.length → e i = true → e (i + 1) = true) ∧ ∀ i o, outs[i]? = some o → o.err = errN (e (i + 1))
  | [], a, b, outs, h, _ => by
    obtain ⟨rfl, rfl⟩ := h
    exact ⟨fun _ => b.wr.err, rfl, rfl, fun _ _ h => h, fun i o ho => by simp at ho⟩
  | c :: cs, a, b, outs, h, hk => by
    obtain ⟨o, r, m, rfl, h1, h2⟩ := h
    obtain ⟨k1, k2⟩ := h1.errs (hk c (by simp))
    obtain ⟨e, e0, e1, e2, e3⟩ := WW.Runs.errs h2 (fun d hd => hk d (by simp [hd]))
    refine ⟨fun i => match i with | 0 => a.wr.err | i + 1 => e i, rfl, e1, fun i hi he => ?_, fun i o' ho => ?_⟩
    · cases i with
      | zero => show e 0 = true; rw [e0]; exact k2 he
      | succ i => exact e2 i (by simpa using hi) he
    · cases i with
      | zero =>
        simp only [List.getElem?_cons_zero, Option.some.injEq] at ho
        subst ho
        show o.err = errN (e 0)
        rw [e0]; exact k1
      | succ i => exact e3 i o' (by simpa using ho)

theorem sticky_run {room : Int} {size : Nat} {cs : List CallR} {outs : List OutW} {a : WW} (hs : 1 ≤ size ∧ size ≤ 32767) (hk : ∀ c ∈ cs, 0 ≤ c.kind ∧ c.kind ≤ 4)
    (h : (WW.start room 0 size).Runs (cs ++ [callK 4, callK 1, callK 4]) outs a) :
    outs.length = cs.length + 3 ∧ a.got1 = (asks cs ++ [0]).take room.toNat ∧
    ∃ e : Nat → Bool, e 0 = false ∧ (e (cs.length + 3) = true ↔ room < (asks cs ++ [0]).length) ∧ (∀ i, i < cs.length + 3 → e i = true → e (i + 1) = true) ∧ ∀ i o, outs[i]? = some o → o.err = errN (e (i + 1)) := by
  have hlen := h.length
  simp only [List.length_append, List.length_cons, List.length_nil] at hlen
  have hka : ∀ c ∈ cs ++ [callK 4, callK 1, callK 4], 0 ≤ c.kind ∧ c.kind ≤ 4 := by
    intro c hc
    rcases List.mem_append.1 hc with hc | hc
    · exact hk c hc
    · simp [callK] at hc
      rcases hc with rfl | rfl | rfl <;> simp
  obtain ⟨e, e0, e1, e2, e3⟩ := h.errs hka
  simp only [List.length_append, List.length_cons, List.length_nil] at e1 e2
  have hs0 : (Wr.fresh room size).Step [] (WW.start room 0 size).wr := Wr.Step.refl ⟨hs, Nat.zero_le _⟩ rfl
  obtain ⟨s1, s2, s3⟩ := h.step (fun c hc => by have := hka c hc; omega) hs0
  have ha : asks (cs ++ [callK 4, callK 1, callK 4]) = asks cs ++ [0] := by
    rw [asks_append]
    congr 1
  rw [List.nil_append, ha] at s1
  have hfl : a.wr.err = false → a.wr.buf = [] := by
    rw [show cs ++ [callK 4, callK 1, callK 4] = (cs ++ [callK 4, callK 1]) ++ [callK 4] by simp] at h
    obtain ⟨o1, o2, m, rfl, h1, h2⟩ := h.split
    obtain ⟨k1, _, _⟩ := h1.step (fun c hc => by have := hka c (by rcases List.mem_append.1 hc with h | h; exact List.mem_append_left _ h; exact List.mem_append_right _ (by simp at h ⊢; rcases h with h | h <;> simp [h])); omega) hs0
    obtain ⟨of, r, mf, rfl, d1, rfl, rfl⟩ := h2
    unfold WW.Does at d1
    rw [if_neg (by decide), if_neg (by decide), if_neg (by decide), if_neg (by decide), if_pos (show (callK 4).kind = 4 from rfl)] at d1
    obtain ⟨rfl, rfl⟩ := d1
    exact k1.flush.2
  obtain ⟨e4, e5⟩ := s1.ended hfl
  refine ⟨by omega, ?_, e, e0, ?_, e2, e3⟩
  · unfold WW.got1
    rw [s3]
    exact e4
  · rw [e1, e5]
    simp only [List.length_append, List.length_cons, List.length_nil]
    omega

theorem ask_le (c : CallR) : (ask c).length ≤ c.bytes.length + 4 := by
  unfold ask
  split
  · omega
  · split
    · simp
    · split
      · have := runeB_length (i32of c.n); omega
      · simp
theorem asks_le : ∀ cs : List CallR, (asks cs).length ≤ callsW cs
  | [] => by simp [asks, callsW]
  | c :: cs => by
    have h1 := asks_le cs
    have h2 := ask_le c
    simp only [asks, callsW, List.length_append]
    omega

theorem callsW_writes (ks : List Int) (ps : List (List UInt8)) (rs : List Int) : callsW (writesR ks ps rs) ≤ (joined ps).length + 4 * ks.length := by
  have h : ∀ m, m ≤ ks.length → callsW ((writesR ks ps rs).take m) ≤ (joined (ps.take m)).length + 4 * m := by
    intro m
    induction m with
    | zero => intro _; simp [callsW]
    | succ m ih =>
      intro hm
      rw [writesR_take _ _ _ m (by omega), callsW_append]
      have h1 := ih (by omega)
      by_cases hp : m < ps.length
      · rw [joined_take_succ ps m ps[m] (List.getElem?_eq_getElem hp), List.length_append]
        have e : (writesAt ks ps rs m).bytes = ps[m] := by unfold writesAt; simp [hp]
        simp only [callsW, e]
        omega
      · have e : (writesAt ks ps rs m).bytes = [] := by unfold writesAt; simp [show ps.length ≤ m by omega]
        rw [List.take_of_length_le (by omega : ps.length ≤ m)] at h1
        rw [List.take_of_length_le (by omega : ps.length ≤ m + 1)]
        simp only [callsW, e, List.length_nil]
        omega
  have h1 := h ks.length (Nat.le_refl _)
  have h2 := joined_take_le ps ks.length
  rw [List.take_of_length_le (by rw [writesR_length]; exact Nat.le_refl _)] at h1
  omega

theorem callsV_app : ∀ (cs ds : List CallR) (bvs dvs : List Value), bvs.length = cs.length → callsV (cs ++ ds) (bvs ++ dvs) = callsV cs bvs ++ callsV ds dvs
  | [], ds, bvs, dvs, h => by
    have : bvs = [] := List.eq_nil_of_length_eq_zero h
    subst this; rfl
  | c :: cs, ds, [], dvs, h => by simp at h
  | c :: cs, ds, b :: bvs, dvs, h => by
    have := callsV_app cs ds bvs dvs (by simpa using h)
    simp only [List.cons_append, callsV, this, List.append_assoc]

/-- A beginning of a row of calls. -/
theorem CallsAt.upto {w : World} {a : Option Addr} {c : Nat} {cs ds : List CallR} (h : CallsAt w (.slice a (cs ++ ds).length c) (cs ++ ds)) : CallsAt w (.slice a cs.length c) cs := by
  obtain ⟨a', c', bvs, e, h2, h3, h4, h5, h6, h7⟩ := h
  simp only [Value.slice.injEq] at e
  obtain ⟨rfl, _, rfl⟩ := e
  simp only [List.length_append] at h2 h5
  have hb : (bvs.take cs.length).length = cs.length := by simp; omega
  refine ⟨a, c, bvs.take cs.length, rfl, by omega, h3, h4, hb, fun ad e j u hu => ?_, fun j u x hu hx => ?_⟩
  · refine h6 ad e j u ?_
    rw [← List.take_append_drop cs.length bvs, callsV_app cs ds _ _ hb]
    have hj := (List.getElem?_eq_some_iff.1 hu).1
    rw [List.getElem?_append_left hj]; exact hu
  · have hj := (List.getElem?_eq_some_iff.1 hx).1
    rw [List.getElem?_take, if_pos hj] at hu
    exact h7 j u x hu (by rw [List.getElem?_append_left hj]; exact hx)
end Go.Proofs.YtjihbkmbbcdnfaaDoor
