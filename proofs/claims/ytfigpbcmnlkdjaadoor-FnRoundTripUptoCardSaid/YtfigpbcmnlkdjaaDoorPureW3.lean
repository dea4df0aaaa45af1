/-
  How much is in a writer's buffer behind a call that came without an error, as a number of numbers; runes in UTF-8. No program in sight.
-/
import Derived.Test.YtfigpbcmnlkdjaaDoorPureW
namespace Go.Proofs.YtfigpbcmnlkdjaaDoor

/-- What is in the buffer of size s behind a Write of L bytes, where m bytes were in it. -/
def wlen (s m L : Nat) : Nat := if L ≤ s - m then m + L else if m = 0 then 0 else if L - (s - m) ≤ s then L - (s - m) else 0
/-- The same of WriteString. -/
def slen (s m L : Nat) : Nat := if L ≤ s - m then m + L else (L - (s - m) - 1) % s + 1
/-- The same of WriteByte. -/
def blen (s m : Nat) : Nat := if s - m = 0 then 1 else m + 1

theorem wlen_fit {s m L : Nat} (h : L ≤ s - m) : wlen s m L = m + L := by unfold wlen; rw [if_pos h]
theorem wlen_direct {s L : Nat} (h : ¬ L ≤ s) : wlen s 0 L = wlen s 0 0 := by unfold wlen; rw [if_neg (by omega), if_pos rfl, if_pos (by omega)]
theorem wlen_fill {s m L : Nat} (h : ¬ L ≤ s - m) (hm : 0 < m) : wlen s m L = wlen s 0 (L - (s - m)) := by
  unfold wlen
  rw [if_neg h, if_neg (by omega)]
  by_cases h2 : L - (s - m) ≤ s
  · rw [if_pos h2, if_pos (by omega)]; omega
  · rw [if_neg h2, if_neg (by omega), if_pos rfl]

theorem slen_fit {s m L : Nat} (h : L ≤ s - m) : slen s m L = m + L := by unfold slen; rw [if_pos h]
theorem slen_fill {s m L : Nat} (_hs : 0 < s) (h : ¬ L ≤ s - m) : slen s m L = slen s 0 (L - (s - m)) := by
  unfold slen
  rw [if_neg h]
  by_cases h2 : L - (s - m) ≤ s
  · rw [if_pos (by omega), Nat.mod_eq_of_lt (by omega)]; omega
  · rw [if_neg (by omega), Nat.sub_zero, Nat.sub_right_comm (L - (s - m)) s 1, Nat.mod_eq_sub_mod (a := L - (s - m) - 1) (by omega)]

end Go.Proofs.YtfigpbcmnlkdjaaDoor
