/-
  What a writer has handed on when all parts are written and flushed. No program in sight.
-/
import Derived.Test.YtfigpbcmnlkdjaaDoorPureW
namespace Go.Proofs.YtfigpbcmnlkdjaaDoor

theorem Wr.Wrote.step {a b c : Wr} {x y : List UInt8} {n : Nat} (h : a.Step x b) (k : b.Wrote y n c) : a.Step (x ++ y) c := by
  unfold Wr.Wrote at k
  cases he : b.err with
  | true =>
    rw [he] at k
    obtain ⟨_, rfl⟩ := k
    exact h.more he y
  | false =>
    rw [he] at k
    exact h.trans he k.2.2

theorem Wr.Step.flush {a b : Wr} {x : List UInt8} (h : a.Step x b) : a.Step x b.flush ∧ (b.flush.err = false → b.flush.buf = []) := by
  cases he : b.err with
  | true =>
    have e : b.flush = b := by unfold Wr.flush; simp [he]
    rw [e]
    exact ⟨h, fun e => by rw [he] at e; cases e⟩
  | false =>
    obtain ⟨h1, h2⟩ := Wr.flush_step h.ok he
    have := h.trans he h1
    rw [List.append_nil] at this
    exact ⟨this, h2⟩

/-- A new writer over a sink. -/
def Wr.fresh (room : Int) (size : Nat) : Wr := ⟨⟨room, []⟩, size, [], false⟩

theorem Wr.fresh_fits (room : Int) (size : Nat) (h : 1 ≤ size ∧ size ≤ 32767) (r1 : -9223372036854775807 ≤ room + 1) (r2 : room ≤ 9223372036854775807) : (Wr.fresh room size).Fits :=
  ⟨⟨h, Nat.zero_le _⟩, r1, r2, by simp [Wr.fresh]⟩

/-- What the sink has in the end, and whether there was an error. -/
theorem Wr.Step.ended {room : Int} {size : Nat} {x : List UInt8} {b : Wr} (h : (Wr.fresh room size).Step x b) (hb : b.err = false → b.buf = []) :
    b.snk.got = x.take room.toNat ∧ (b.err = true ↔ room.toNat < x.length) := by
  have h1 := h.room
  have h2 := h.low
  simp only [Wr.fresh, List.length_nil] at h1 h2
  cases he : b.err with
  | true =>
    obtain ⟨c1, c2, c3⟩ := h.cut he
    simp only [Wr.fresh, List.nil_append] at c1 c2 c3
    have hl : b.snk.got.length = room.toNat := by omega
    rw [← hl]
    exact ⟨c3, fun _ => c2, fun _ => rfl⟩
  | false =>
    have ha := h.all he
    rw [hb he] at ha
    simp only [Wr.fresh, List.nil_append, List.append_nil] at ha
    rw [ha] at h1 ⊢
    have hl : x.length ≤ room.toNat := by omega
    exact ⟨(List.take_of_length_le hl).symm, (fun e => by cases e), (fun h => by omega)⟩

/-- All parts, one after another. -/
def joined (ps : List (List UInt8)) : List UInt8 := ps.flatten

theorem joined_take_succ (ps : List (List UInt8)) (k : Nat) (p : List UInt8) (h : ps[k]? = some p) : joined (ps.take (k + 1)) = joined (ps.take k) ++ p := by
  unfold joined
  rw [List.take_add_one, h]
  simp

theorem joined_take_le (ps : List (List UInt8)) (k : Nat) : (joined (ps.take k)).length ≤ (joined ps).length := by
  unfold joined
  have : ps.flatten = (ps.take k).flatten ++ (ps.drop k).flatten := by rw [← List.flatten_append, List.take_append_drop]
  rw [this, List.length_append]; omega

end Go.Proofs.YtfigpbcmnlkdjaaDoor
