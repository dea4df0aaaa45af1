/-
  The plain law of FnWriteRunes.
-/
import Derived.Test.YtjihbkmbbcdnfaaDoorPureW6
namespace Go.Proofs.YtjihbkmbbcdnfaaDoor

/-- The bytes of runes. -/
def runesB (rs : List Int) : List UInt8 := joined (rs.map fun r => runeB (i32of r))

theorem runesB_succ (rs : List Int) (k : Nat) (h : k < rs.length) : runesB (rs.take (k + 1)) = runesB (rs.take k) ++ runeB (i32of (rs.getD k 0)) := by
  unfold runesB
  rw [List.map_take, List.map_take]
  refine joined_take_succ _ k _ ?_
  rw [List.getElem?_map, List.getElem?_eq_getElem h, List.getD_eq_getElem?_getD, List.getElem?_eq_getElem h]
  rfl

theorem runesB_length : ∀ rs : List Int, (runesB rs).length ≤ 4 * rs.length
  | [] => by simp [runesB, joined]
  | r :: rs => by
    have h1 := runesB_length rs
    have h2 := runeB_length (i32of r)
    unfold runesB joined at *
    simp only [List.map_cons, List.flatten_cons, List.length_append, List.length_cons]
    omega

theorem writesAt_rune (n : Nat) (rs : List Int) (m : Nat) (hm : m < n) : writesAt (List.replicate n 2) [] rs m = ⟨2, rs.getD m 0, 0, []⟩ := by
  unfold writesAt
  rw [List.getD_eq_getElem?_getD, List.getElem?_replicate, if_pos hm]
  simp

theorem asks_runes (n : Nat) (rs : List Int) (hn : n = rs.length) : asks (writesR (List.replicate n 2) [] rs) = runesB rs := by
  have h : ∀ m, m ≤ rs.length → asks ((writesR (List.replicate n 2) [] rs).take m) = runesB (rs.take m) := by
    intro m
    induction m with
    | zero => intro _; simp [asks, runesB, joined]
    | succ m ih =>
      intro hm
      rw [writesR_take _ _ _ m (by simp; omega), asks_append, ih (by omega), runesB_succ rs m (by omega), writesAt_rune n rs m (by omega)]
      simp [asks, ask]
  have := h rs.length (Nat.le_refl _)
  rw [List.take_of_length_le (by rw [writesR_length]; simp; omega), List.take_length] at this
  exact this

theorem callsW_runes (n : Nat) (rs : List Int) : callsW (writesR (List.replicate n 2) [] rs) = 4 * n := by
  have h : ∀ cs : List CallR, (∀ c ∈ cs, c.bytes = []) → callsW cs = 4 * cs.length := by
    intro cs
    induction cs with
    | nil => intro _; rfl
    | cons c cs ih =>
      intro h
      have := ih (fun d hd => h d (by simp [hd]))
      simp only [callsW, h c (by simp), this, List.length_cons, List.length_nil]
      omega
  rw [h, writesR_length]
  · simp
  · intro c hc
    simp only [writesR, List.length_replicate, List.mem_map, List.mem_range] at hc
    obtain ⟨i, hi, rfl⟩ := hc
    rw [writesAt_rune n rs i hi]

theorem runes_run {size : Nat} {rs : List Int} {outs : List OutW} {a : WW} (hs : 1 ≤ size ∧ size ≤ 32767)
    (h : (WW.start (runesB rs).length 0 size).Runs (writesR (List.replicate rs.length 2) [] rs ++ [callK 4]) outs a) :
    outs.length = rs.length + 1 ∧ a.got1 = runesB rs ∧ ∀ k, k < rs.length → outs[k]? = some ⟨(runeB (i32of (rs.getD k 0))).length, 0⟩ := by
  have hlen := h.length
  simp only [List.length_append, writesR_length, List.length_replicate, List.length_cons, List.length_nil] at hlen
  obtain ⟨o1, o2, m, rfl, h1, h2⟩ := h.split
  have hs0 : (Wr.fresh (runesB rs).length size).Step [] (WW.start (runesB rs).length 0 size).wr := Wr.Step.refl ⟨hs, Nat.zero_le _⟩ rfl
  have hkind := writes_kind 2 rs.length [] rs
  obtain ⟨k1, k2, k3⟩ := h1.step (fun c hc => by rw [hkind c hc]; omega) hs0
  rw [List.nil_append, asks_runes rs.length rs rfl] at k1
  obtain ⟨of, r, mf, rfl, d1, rfl, rfl⟩ := h2
  unfold WW.Does at d1
  rw [if_neg (by decide), if_neg (by decide), if_neg (by decide), if_neg (by decide), if_pos (show (callK 4).kind = 4 from rfl)] at d1
  obtain ⟨rfl, rfl⟩ := d1
  obtain ⟨f1, f2⟩ := k1.flush
  obtain ⟨e1, e2⟩ := f1.ended f2
  have hsnd : m.snd = false := k3
  have hef : m.wr.flush.err = false := by
    cases hx : m.wr.flush.err with
    | false => rfl
    | true => have := e2.1 hx; omega
  have hem : m.wr.err = false := by
    cases hx : m.wr.err with
    | false => rfl
    | true =>
      have e : m.wr.flush = m.wr := by unfold Wr.flush; simp [hx]
      rw [e, hx] at hef; cases hef
  refine ⟨by omega, ?_, fun k hk => ?_⟩
  · unfold WW.got1
    rw [show ({ m with wr := m.wr.flush } : WW).snd = m.snd from rfl, hsnd]
    show m.wr.flush.snk.got = _
    rw [e1, List.take_of_length_le (by omega)]
  · obtain ⟨_, w2⟩ := h1.wrote (fun c hc => by rw [hkind c hc]; omega) hs0 hem
    rw [w2, List.getElem?_append_left (by rw [List.length_map, writesR_length]; simp; omega), List.getElem?_map]
    have e : (writesR (List.replicate rs.length 2) [] rs)[k]? = some ⟨2, rs.getD k 0, 0, []⟩ := by
      unfold writesR
      rw [List.getElem?_map, List.getElem?_range (by simp; omega), Option.map_some, writesAt_rune rs.length rs k hk]
    rw [e]
    rfl

/-- The cells of one call. -/
def oneC (x : Int) : Array Value := #[.int .i64 x, .int .i64 0, .int .u8 0, .slice none 0 0]
theorem oneC_calls (x : Int) : callsV [callK x] (List.replicate 1 (.slice none 0 0)) = (oneC x).toList := rfl
theorem oneC_one (x : Int) : ∀ u ∈ (oneC x).toList, u.oneCell' = true := by
  intro u hu
  simp [oneC] at hu
  rcases hu with rfl | rfl | rfl | rfl <;> rfl
theorem oneC_cells (w : World) (x : Int) : ∀ ad', some (⟨w.heap.size, 0, none⟩ : Addr) = some ad' → CellsAt (w.alloc (.cells (oneC x) 44)) ad' (oneC x).toList := by
  intro ad' e' j u hu
  cases e'
  rw [addr_add, Nat.zero_add]
  exact (cell_new w (oneC x) 44 j).trans (by simpa using hu)
theorem parts_nil (w : World) : PartsAt w (.slice none 0 0) [] := ⟨[], ⟨none, 0, rfl, by simp, by unfold maxLen; simp, fun _ => rfl, fun ad e => by cases e⟩, rfl, fun j u p hu _ => by simp at hu⟩
end Go.Proofs.YtjihbkmbbcdnfaaDoor
