/-
  The plain law of FnWriteStrings: runs of writings, a flush, and Available behind it.
-/
import Derived.Test.YtjihbkmbbcdnfaaDoorPureW5
import Derived.Test.YtjihbkmbbcdnfaaDoorWrites
namespace Go.Proofs.YtjihbkmbbcdnfaaDoor

def callK (k : Int) : CallR := ⟨k, 0, 0, []⟩

theorem asks_writes (kd : Int) (hk : kd = 0 ∨ kd = 3) (n : Nat) (ps : List (List UInt8)) (rs : List Int) (hn : n = ps.length) : asks (writesR (List.replicate n kd) ps rs) = joined ps := by
  have h : ∀ m, m ≤ ps.length → asks ((writesR (List.replicate n kd) ps rs).take m) = joined (ps.take m) := by
    intro m
    induction m with
    | zero => intro _; simp [asks, joined]
    | succ m ih =>
      intro hm
      rw [writesR_take _ _ _ m (by simp; omega), asks_append, ih (by omega), joined_take_succ ps m ps[m] (List.getElem?_eq_getElem (by omega))]
      congr 1
      have e : writesAt (List.replicate n kd) ps rs m = ⟨kd, rs.getD m 0, (ps.getD m []).headD 0, ps[m]⟩ := by
        unfold writesAt
        rw [List.getD_eq_getElem?_getD, List.getElem?_replicate, if_pos (by omega)]
        simp [show m < ps.length by omega]
      rw [e]
      simp [asks, ask, hk]
  have := h ps.length (Nat.le_refl _)
  rw [List.take_of_length_le (by rw [writesR_length]; simp; omega), List.take_length] at this
  exact this

theorem writes_kind (kd : Int) (n : Nat) (ps : List (List UInt8)) (rs : List Int) : ∀ c ∈ writesR (List.replicate n kd) ps rs, c.kind = kd := by
  intro c hc
  simp only [writesR, List.length_replicate, List.mem_map, List.mem_range] at hc
  obtain ⟨i, hi, rfl⟩ := hc
  unfold writesAt
  rw [List.getD_eq_getElem?_getD, List.getElem?_replicate, if_pos hi]
  rfl

theorem writes_asks (kd : Int) (hk : kd = 0 ∨ kd = 3) (n : Nat) (ps : List (List UInt8)) (rs : List Int) (hn : n = ps.length) : (writesR (List.replicate n kd) ps rs).map (fun c => (⟨(ask c).length, 0⟩ : OutW)) = ps.map (fun p => ⟨p.length, 0⟩) := by
  apply List.ext_getElem
  · simp [writesR_length, hn]
  · intro i h1 h2
    simp only [List.getElem_map]
    have hi : i < ps.length := by simpa using h2
    have e : (writesR (List.replicate n kd) ps rs)[i]'(by rw [writesR_length]; simp; omega) = writesAt (List.replicate n kd) ps rs i := by simp [writesR]
    rw [e]
    have e2 : (List.replicate n kd).getD i 0 = kd := by rw [List.getD_eq_getElem?_getD, List.getElem?_replicate, if_pos (by omega)]; rfl
    unfold writesAt
    rw [e2]
    unfold ask
    simp [hk, hi]

theorem strings_run {kd : Int} (hk : kd = 0 ∨ kd = 3) {room : Int} {size n : Nat} {ps : List (List UInt8)} {outs : List OutW} {a : WW} (hn : n = ps.length) (hs : 1 ≤ size ∧ size ≤ 32767)
    (h : (WW.start room 0 size).Runs (writesR (List.replicate n kd) ps [] ++ [callK 4, callK 5]) outs a) :
    outs.length = ps.length + 2 ∧ a.got1 = (joined ps).take room.toNat ∧ ((joined ps).length ≤ room.toNat → outs = ps.map (fun p => ⟨p.length, 0⟩) ++ [⟨0, 0⟩, ⟨size, 0⟩]) := by
  have hlen := h.length
  simp only [List.length_append, writesR_length, List.length_replicate, List.length_cons, List.length_nil] at hlen
  obtain ⟨o1, o2, m, rfl, h1, h2⟩ := h.split
  have hs0 : (Wr.fresh room size).Step [] (WW.start room 0 size).wr := Wr.Step.refl ⟨hs, Nat.zero_le _⟩ rfl
  have hkind := writes_kind kd n ps []
  obtain ⟨k1, k2, k3⟩ := h1.step (fun c hc => by rw [hkind c hc]; omega) hs0
  rw [List.nil_append, asks_writes kd hk n ps [] hn] at k1
  obtain ⟨of, r, mf, rfl, d1, oa, r2, ma, rfl, d2, rfl, rfl⟩ := h2
  unfold WW.Does at d1 d2
  rw [if_neg (by decide), if_neg (by decide), if_neg (by decide), if_neg (by decide), if_pos (show (callK 4).kind = 4 from rfl)] at d1
  rw [if_neg (by decide), if_neg (by decide), if_neg (by decide), if_neg (by decide), if_neg (by decide), if_pos (show (callK 5).kind = 5 from rfl)] at d2
  obtain ⟨rfl, rfl⟩ := d1
  obtain ⟨rfl, rfl⟩ := d2
  obtain ⟨f1, f2⟩ := k1.flush
  obtain ⟨e1, e2⟩ := f1.ended f2
  have hsnd : m.snd = false := k3
  refine ⟨by omega, ?_, fun hroom => ?_⟩
  · unfold WW.got1
    rw [show ({ m with wr := m.wr.flush } : WW).snd = m.snd from rfl, hsnd]
    exact e1
  · have hef : m.wr.flush.err = false := by
      cases hx : m.wr.flush.err with
      | false => rfl
      | true => have := e2.1 hx; omega
    have hem : m.wr.err = false := by
      cases hx : m.wr.err with
      | false => rfl
      | true =>
        have e : m.wr.flush = m.wr := by unfold Wr.flush; simp [hx]
        rw [e, hx] at hef; cases hef
    obtain ⟨_, w2⟩ := h1.wrote (fun c hc => by rw [hkind c hc]; omega) hs0 hem
    have hsz : m.wr.flush.size = size := f1.size
    rw [w2, writes_asks kd hk n ps [] hn]
    simp only [hef, errN, f2 hef, hsz]
    simp
end Go.Proofs.YtjihbkmbbcdnfaaDoor
