/-
  The walks of FullRune at the bytes of a rune and at their beginnings, and DecodeRune at them.
-/
import Derived.Test.YtfigpbcmnlkdjaaDoorDecL
import Derived.Test.YtfigpbcmnlkdjaaDoorRuneP
namespace Go.Proofs.YtfigpbcmnlkdjaaDoor
open Go.RowKit Go.Shelf

/-- The library's two tables. -/
abbrev Tabs (w : World) : Prop := Lib.Utf8Tabs 9 10 w

theorem Tabs.keep {S : Nat → Prop} {w w' : World} (h : Tabs w) (k : Keep S w w') (h1 : ¬ S 9) (h2 : ¬ S 10) : Tabs w' :=
  ⟨fun c hc => k.cellAt (h.1 c hc) h1, fun i hi => ⟨k.cellAt (h.2 i hi).1 h2, k.cellAt (h.2 i hi).2 h2⟩⟩

theorem full_empty (w : World) (a : Option Addr) (c : Nat) : Calls Tryd.prog 34 #[.slice a 0 c] w fun e w' => e = .returned (.bool false) ∧ w' = w := by
  go_enter Tryd.func34, Tryd.ntmps34
  go_wp2
  go_ret
  exact ⟨rfl, rfl⟩

set_option maxRecDepth 100000 in
set_option maxHeartbeats 2000000 in
theorem full_yes (w : World) (hT : Tabs w) (b off n c x0 : Nat) (hx : x0 < 256) (hn : 0 < n) (hm : n ≤ 4294967296) (hc : w.cell? ⟨b, off, none⟩ = some (.int .u8 x0)) (hy : Lib.firstT x0 % 8 ≤ n) :
    Calls Tryd.prog 34 #[.slice (some ⟨b, off, none⟩) n c] w fun e w' => e = .returned (.bool true) ∧ w' = w := by
  have hf := hT.1 x0 hx
  have hn0 : (0 : Int) < n := by omega
  have hne : ((n : Int) == 0) = false := by simp; omega
  have hne2 : ¬ (n : Int) = 0 := by omega
  clear hT
  rcases Lib.firstT_cases x0 with hX | hX | hX | hX | hX | hX | hX | hX | hX
  all_goals
    rw [hX] at hf hy
    simp only [Nat.reduceMod] at hy
    clear hX
  · have hge : (0 : Int) ≤ n := by omega
    go_enter Tryd.func34, Tryd.ntmps34
    go_wp2
    go_ret
    exact ⟨rfl, rfl⟩
  · have hge : (1 : Int) ≤ n := by omega
    go_enter Tryd.func34, Tryd.ntmps34
    go_wp2
    go_ret
    exact ⟨rfl, rfl⟩
  · have hge : (2 : Int) ≤ n := by omega
    go_enter Tryd.func34, Tryd.ntmps34
    go_wp2
    go_ret
    exact ⟨rfl, rfl⟩
  · have hge : (3 : Int) ≤ n := by omega
    go_enter Tryd.func34, Tryd.ntmps34
    go_wp2
    go_ret
    exact ⟨rfl, rfl⟩
  · have hge : (3 : Int) ≤ n := by omega
    go_enter Tryd.func34, Tryd.ntmps34
    go_wp2
    go_ret
    exact ⟨rfl, rfl⟩
  · have hge : (3 : Int) ≤ n := by omega
    go_enter Tryd.func34, Tryd.ntmps34
    go_wp2
    go_ret
    exact ⟨rfl, rfl⟩
  · have hge : (4 : Int) ≤ n := by omega
    go_enter Tryd.func34, Tryd.ntmps34
    go_wp2
    go_ret
    exact ⟨rfl, rfl⟩
  · have hge : (4 : Int) ≤ n := by omega
    go_enter Tryd.func34, Tryd.ntmps34
    go_wp2
    go_ret
    exact ⟨rfl, rfl⟩
  · have hge : (4 : Int) ≤ n := by omega
    go_enter Tryd.func34, Tryd.ntmps34
    go_wp2
    go_ret
    exact ⟨rfl, rfl⟩

set_option maxRecDepth 100000 in
set_option maxHeartbeats 4000000 in
theorem full_no (w : World) (hT : Tabs w) (b off n c x0 x1 x2 : Nat) (hx : x0 < 256) (hx1 : x1 < 256) (hx2 : x2 < 256) (hn : 0 < n) (hX : n < Lib.firstT x0 % 8) (hc : w.cell? ⟨b, off, none⟩ = some (.int .u8 x0))
    (h1 : 1 < n → w.cell? ⟨b, off + 1, none⟩ = some (.int .u8 x1) ∧ Lib.accLo (Lib.firstT x0 / 16) ≤ x1 ∧ x1 ≤ Lib.accHi (Lib.firstT x0 / 16)) (h2 : 2 < n → w.cell? ⟨b, off + 2, none⟩ = some (.int .u8 x2) ∧ 128 ≤ x2 ∧ x2 ≤ 191) :
    Calls Tryd.prog 34 #[.slice (some ⟨b, off, none⟩) n c] w fun e w' => e = .returned (.bool false) ∧ New w w' := by
  have hf := hT.1 x0 hx
  have hb : b < w.heap.size := World.block_lt_of_cell? w _ hc
  have hgb : 10 < w.heap.size := World.block_lt_of_cell? w _ (hT.2 0 (by omega)).1
  have HN := Lib.hid (fun o : Obj => (show New w (w.alloc o) from (Keep.refl _ w).alloc o))
  have h4 : n = 1 ∨ n = 2 ∨ n = 3 := by
    rcases Lib.firstT_cases x0 with h | h | h | h | h | h | h | h | h <;> rw [h] at hX <;> simp only [Nat.reduceMod] at hX <;> omega
  rcases Lib.firstT_cases x0 with hq | hq | hq | hq | hq | hq | hq | hq | hq
  · rw [hq] at hX; simp at hX
  · rw [hq] at hX; simp at hX; omega
  · rw [hq] at hf hX h1
    have ha0 := (hT.2 0 (by omega)).1
    have ha1 := (hT.2 0 (by omega)).2
    simp only [Lib.accLo, Lib.accHi, Nat.reduceMul, Nat.reduceAdd, Nat.reduceEqDiff, if_true, if_false, Nat.reduceMod, Nat.reduceDiv] at ha0 ha1 hX h1
    clear hq hT
    rcases h4 with rfl | rfl | rfl
    · clear h1 h2
      go_enter Tryd.func34, Tryd.ntmps34
      go_wp2_with fail
      go_quiet (fail)
      go_wp2
      go_ret
      exact ⟨rfl, (HN.out _).drewN _⟩
    · omega
    · omega
  · rw [hq] at hf hX h1
    have ha0 := (hT.2 1 (by omega)).1
    have ha1 := (hT.2 1 (by omega)).2
    simp only [Lib.accLo, Lib.accHi, Nat.reduceMul, Nat.reduceAdd, Nat.reduceEqDiff, if_true, if_false, Nat.reduceMod, Nat.reduceDiv] at ha0 ha1 hX h1
    clear hq hT
    rcases h4 with rfl | rfl | rfl
    · clear h1 h2
      go_enter Tryd.func34, Tryd.ntmps34
      go_wp2_with fail
      go_quiet (fail)
      go_wp2
      go_ret
      exact ⟨rfl, (HN.out _).drewN _⟩
    · obtain ⟨q1, l1, l2⟩ := h1 (by omega)
      have d1 : decide ((x1 : Int) < 160) = false := decide_eq_false (by omega)
      have d2 : decide ((191 : Int) < x1) = false := decide_eq_false (by omega)
      clear h1 h2
      go_enter Tryd.func34, Tryd.ntmps34
      go_wp2_with fail
      go_quiet (fail)
      go_wp2
      go_ret
      exact ⟨rfl, (HN.out _).drewN _⟩
    · omega
  · rw [hq] at hf hX h1
    have ha0 := (hT.2 0 (by omega)).1
    have ha1 := (hT.2 0 (by omega)).2
    simp only [Lib.accLo, Lib.accHi, Nat.reduceMul, Nat.reduceAdd, Nat.reduceEqDiff, if_true, if_false, Nat.reduceMod, Nat.reduceDiv] at ha0 ha1 hX h1
    clear hq hT
    rcases h4 with rfl | rfl | rfl
    · clear h1 h2
      go_enter Tryd.func34, Tryd.ntmps34
      go_wp2_with fail
      go_quiet (fail)
      go_wp2
      go_ret
      exact ⟨rfl, (HN.out _).drewN _⟩
    · obtain ⟨q1, l1, l2⟩ := h1 (by omega)
      have d1 : decide ((x1 : Int) < 128) = false := decide_eq_false (by omega)
      have d2 : decide ((191 : Int) < x1) = false := decide_eq_false (by omega)
      clear h1 h2
      go_enter Tryd.func34, Tryd.ntmps34
      go_wp2_with fail
      go_quiet (fail)
      go_wp2
      go_ret
      exact ⟨rfl, (HN.out _).drewN _⟩
    · omega
  · rw [hq] at hf hX h1
    have ha0 := (hT.2 2 (by omega)).1
    have ha1 := (hT.2 2 (by omega)).2
    simp only [Lib.accLo, Lib.accHi, Nat.reduceMul, Nat.reduceAdd, Nat.reduceEqDiff, if_true, if_false, Nat.reduceMod, Nat.reduceDiv] at ha0 ha1 hX h1
    clear hq hT
    rcases h4 with rfl | rfl | rfl
    · clear h1 h2
      go_enter Tryd.func34, Tryd.ntmps34
      go_wp2_with fail
      go_quiet (fail)
      go_wp2
      go_ret
      exact ⟨rfl, (HN.out _).drewN _⟩
    · obtain ⟨q1, l1, l2⟩ := h1 (by omega)
      have d1 : decide ((x1 : Int) < 128) = false := decide_eq_false (by omega)
      have d2 : decide ((159 : Int) < x1) = false := decide_eq_false (by omega)
      clear h1 h2
      go_enter Tryd.func34, Tryd.ntmps34
      go_wp2_with fail
      go_quiet (fail)
      go_wp2
      go_ret
      exact ⟨rfl, (HN.out _).drewN _⟩
    · omega
  · rw [hq] at hf hX h1
    have ha0 := (hT.2 3 (by omega)).1
    have ha1 := (hT.2 3 (by omega)).2
    simp only [Lib.accLo, Lib.accHi, Nat.reduceMul, Nat.reduceAdd, Nat.reduceEqDiff, if_true, if_false, Nat.reduceMod, Nat.reduceDiv] at ha0 ha1 hX h1
    clear hq hT
    rcases h4 with rfl | rfl | rfl
    · clear h1 h2
      go_enter Tryd.func34, Tryd.ntmps34
      go_wp2_with fail
      go_quiet (fail)
      go_wp2
      go_ret
      exact ⟨rfl, (HN.out _).drewN _⟩
    · obtain ⟨q1, l1, l2⟩ := h1 (by omega)
      have d1 : decide ((x1 : Int) < 144) = false := decide_eq_false (by omega)
      have d2 : decide ((191 : Int) < x1) = false := decide_eq_false (by omega)
      clear h1 h2
      go_enter Tryd.func34, Tryd.ntmps34
      go_wp2_with fail
      go_quiet (fail)
      go_wp2
      go_ret
      exact ⟨rfl, (HN.out _).drewN _⟩
    · obtain ⟨q1, l1, l2⟩ := h1 (by omega)
      have d1 : decide ((x1 : Int) < 144) = false := decide_eq_false (by omega)
      have d2 : decide ((191 : Int) < x1) = false := decide_eq_false (by omega)
      obtain ⟨q2, m1, m2⟩ := h2 (by omega)
      have d3 : decide ((x2 : Int) < 128) = false := decide_eq_false (by omega)
      have d4 : decide ((191 : Int) < x2) = false := decide_eq_false (by omega)
      have d5 : ¬ (x2 : Int) < 128 := by omega
      have d6 : ¬ (191 : Int) < x2 := by omega
      clear h1 h2
      go_enter Tryd.func34, Tryd.ntmps34
      go_wp2_with fail
      go_quiet (fail)
      go_wp2
      go_ret
      exact ⟨rfl, (HN.out _).drewN _⟩
  · rw [hq] at hf hX h1
    have ha0 := (hT.2 0 (by omega)).1
    have ha1 := (hT.2 0 (by omega)).2
    simp only [Lib.accLo, Lib.accHi, Nat.reduceMul, Nat.reduceAdd, Nat.reduceEqDiff, if_true, if_false, Nat.reduceMod, Nat.reduceDiv] at ha0 ha1 hX h1
    clear hq hT
    rcases h4 with rfl | rfl | rfl
    · clear h1 h2
      go_enter Tryd.func34, Tryd.ntmps34
      go_wp2_with fail
      go_quiet (fail)
      go_wp2
      go_ret
      exact ⟨rfl, (HN.out _).drewN _⟩
    · obtain ⟨q1, l1, l2⟩ := h1 (by omega)
      have d1 : decide ((x1 : Int) < 128) = false := decide_eq_false (by omega)
      have d2 : decide ((191 : Int) < x1) = false := decide_eq_false (by omega)
      clear h1 h2
      go_enter Tryd.func34, Tryd.ntmps34
      go_wp2_with fail
      go_quiet (fail)
      go_wp2
      go_ret
      exact ⟨rfl, (HN.out _).drewN _⟩
    · obtain ⟨q1, l1, l2⟩ := h1 (by omega)
      have d1 : decide ((x1 : Int) < 128) = false := decide_eq_false (by omega)
      have d2 : decide ((191 : Int) < x1) = false := decide_eq_false (by omega)
      obtain ⟨q2, m1, m2⟩ := h2 (by omega)
      have d3 : decide ((x2 : Int) < 128) = false := decide_eq_false (by omega)
      have d4 : decide ((191 : Int) < x2) = false := decide_eq_false (by omega)
      have d5 : ¬ (x2 : Int) < 128 := by omega
      have d6 : ¬ (191 : Int) < x2 := by omega
      clear h1 h2
      go_enter Tryd.func34, Tryd.ntmps34
      go_wp2_with fail
      go_quiet (fail)
      go_wp2
      go_ret
      exact ⟨rfl, (HN.out _).drewN _⟩
  · rw [hq] at hf hX h1
    have ha0 := (hT.2 4 (by omega)).1
    have ha1 := (hT.2 4 (by omega)).2
    simp only [Lib.accLo, Lib.accHi, Nat.reduceMul, Nat.reduceAdd, Nat.reduceEqDiff, if_true, if_false, Nat.reduceMod, Nat.reduceDiv] at ha0 ha1 hX h1
    clear hq hT
    rcases h4 with rfl | rfl | rfl
    · clear h1 h2
      go_enter Tryd.func34, Tryd.ntmps34
      go_wp2_with fail
      go_quiet (fail)
      go_wp2
      go_ret
      exact ⟨rfl, (HN.out _).drewN _⟩
    · obtain ⟨q1, l1, l2⟩ := h1 (by omega)
      have d1 : decide ((x1 : Int) < 128) = false := decide_eq_false (by omega)
      have d2 : decide ((143 : Int) < x1) = false := decide_eq_false (by omega)
      clear h1 h2
      go_enter Tryd.func34, Tryd.ntmps34
      go_wp2_with fail
      go_quiet (fail)
      go_wp2
      go_ret
      exact ⟨rfl, (HN.out _).drewN _⟩
    · obtain ⟨q1, l1, l2⟩ := h1 (by omega)
      have d1 : decide ((x1 : Int) < 128) = false := decide_eq_false (by omega)
      have d2 : decide ((143 : Int) < x1) = false := decide_eq_false (by omega)
      obtain ⟨q2, m1, m2⟩ := h2 (by omega)
      have d3 : decide ((x2 : Int) < 128) = false := decide_eq_false (by omega)
      have d4 : decide ((191 : Int) < x2) = false := decide_eq_false (by omega)
      have d5 : ¬ (x2 : Int) < 128 := by omega
      have d6 : ¬ (191 : Int) < x2 := by omega
      clear h1 h2
      go_enter Tryd.func34, Tryd.ntmps34
      go_wp2_with fail
      go_quiet (fail)
      go_wp2
      go_ret
      exact ⟨rfl, (HN.out _).drewN _⟩
end Go.Proofs.YtfigpbcmnlkdjaaDoor
