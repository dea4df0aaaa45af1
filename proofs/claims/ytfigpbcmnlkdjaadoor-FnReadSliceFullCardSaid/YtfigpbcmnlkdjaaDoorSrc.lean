/-
  The source that is read: how it lies in memory, and the walks of the thin package's functions on it.
-/
import Derived.Test.YtfigpbcmnlkdjaaDoorCopied
import Derived.Test.YtfigpbcmnlkdjaaDoorPureR
namespace Go.Proofs.YtfigpbcmnlkdjaaDoor
open Go.RowKit

/-- A source in block b; its data and its cuts lie in no block of the set N. -/
def SrcAt (w : World) (b : Nat) (s : Src) (N : Nat → Prop) : Prop :=
  ∃ dv cv E, w.heap[b]? = some (.cells #[dv, cv, .int .i64 E, .bool s.wth, .int .i64 s.pos, .int .i64 s.piece, .int .i64 s.left] 77 (0, 0)) ∧
    s.eof = decide (E = 0) ∧ BytesAt w dv s.data ∧ IntsAt w cv s.cuts ∧ (∀ i, Value.inBlock dv i → ¬ N i) ∧ (∀ i, Value.inBlock cv i → ¬ N i)

theorem SrcAt.other {w : World} {b : Nat} {s : Src} {N M : Nat → Prop} (h : SrcAt w b s N) (hM : ∀ i, i < w.heap.size → M i → N i) : SrcAt w b s M := by
  obtain ⟨dv, cv, E, h0, h1, h2, h3, h4, h5⟩ := h
  exact ⟨dv, cv, E, h0, h1, h2, h3, fun i hi hm => h4 i hi (hM i (RowAt.lt h2 i hi) hm), fun i hi hm => h5 i hi (hM i (RowAt.lt h3 i hi) hm)⟩

theorem SrcAt.keep {S : Nat → Prop} {w w' : World} {b : Nat} {s : Src} {N : Nat → Prop} (h : SrcAt w b s N) (k : Keep S w w') (hb : ¬ S b) (hS : ∀ i, i < w.heap.size → S i → N i) : SrcAt w' b s N := by
  obtain ⟨dv, cv, E, h0, h1, h2, h3, h4, h5⟩ := h
  refine ⟨dv, cv, E, ?_, h1, RowAt.keep h2 k (fun i hi hs => h4 i hi (hS i (RowAt.lt h2 i hi) hs)), RowAt.keep h3 k (fun i hi hs => h5 i hi (hS i (RowAt.lt h3 i hi) hs)), h4, h5⟩
  rw [k.block b (Array.getElem?_eq_some_iff.1 h0).1 hb]
  exact h0

theorem SrcAt.lt {w : World} {b : Nat} {s : Src} {N : Nat → Prop} (h : SrcAt w b s N) : b < w.heap.size := by
  obtain ⟨dv, cv, E, h0, _⟩ := h
  exact (Array.getElem?_eq_some_iff.1 h0).1

theorem SrcAt.renew {w w' : World} {N : Nat → Prop} {b : Nat} {s s' : Src} {dv cv : Value} {E : Int} (hk : Keep (fun k => k = b) w w')
    (h0 : w'.heap[b]? = some (.cells #[dv, cv, .int .i64 E, .bool s'.wth, .int .i64 s'.pos, .int .i64 s'.piece, .int .i64 s'.left] 77 (0, 0)))
    (hE : s.eof = decide (E = 0)) (hdv : BytesAt w dv s.data) (hcv : IntsAt w cv s.cuts) (hnd : ∀ i, Value.inBlock dv i → ¬ N i) (hnc : ∀ i, Value.inBlock cv i → ¬ N i) (hN : N b)
    (e1 : s'.data = s.data) (e2 : s'.cuts = s.cuts) (e3 : s'.eof = s.eof) : SrcAt w' b s' N := by
  refine ⟨dv, cv, E, h0, by rw [e3]; exact hE, ?_, ?_, hnd, hnc⟩
  · rw [e1]; exact RowAt.keep hdv hk (fun i hi e => hnd i hi (e ▸ hN))
  · rw [e2]; exact RowAt.keep hcv hk (fun i hi e => hnc i hi (e ▸ hN))

set_option maxHeartbeats 400000 in
theorem next_any (b : Nat) (w : World) (s : Src) (N : Nat → Prop) (hN : N b) (h : SrcAt w b s N) (hp : s.pos ≤ s.data.length) (hq : s.piece ≤ s.pos) (hd : s.data.length ≤ 140737488355328) (hc : s.cuts.length ≤ 140737488355328) :
    Calls Tryd.prog 29 #[.pointer (some ⟨b, 0, none⟩)] w fun e w' => e = .returned (.tuple #[]) ∧ SrcAt w' b s.nx N ∧ Keep (fun k => k = b) w w' := by
  obtain ⟨dv, cv, E, h0, hE, hdv, hcv, hnd, hnc⟩ := h
  obtain ⟨a1, n1, rfl, d1, d2, d3, d4⟩ := id hdv
  obtain ⟨a2, n2, rfl, e1, e2, e3, e4⟩ := id hcv
  rw [bytesV_length] at h0 hdv hnd
  rw [intsV_length] at h0 hcv hnc
  clear d1 d2 d3 d4 e1 e2 e3 e4
  have c0 : w.cell? ⟨b, 0, none⟩ = some (.slice a1 s.data.length n1) := by simp [World.cell?, h0]
  have c1 : w.cell? ⟨b, 1, none⟩ = some (.slice a2 s.cuts.length n2) := by simp [World.cell?, h0]
  have c4 : w.cell? ⟨b, 4, none⟩ = some (.int .i64 s.pos) := by simp [World.cell?, h0]
  have c5 : w.cell? ⟨b, 5, none⟩ = some (.int .i64 s.piece) := by simp [World.cell?, h0]
  have c6 : w.cell? ⟨b, 6, none⟩ = some (.int .i64 s.left) := by simp [World.cell?, h0]
  have f4 : w.frozen? ⟨b, 4, none⟩ = false := by simp [World.frozen?, h0]
  have f5 : w.frozen? ⟨b, 5, none⟩ = false := by simp [World.frozen?, h0]
  have f6 : w.frozen? ⟨b, 6, none⟩ = false := by simp [World.frozen?, h0]
  have H0 := Lib.hid h0
  have HE := Lib.hid hE
  clear h0 hE
  by_cases hlt : s.piece < s.cuts.length
  · obtain ⟨bc, oc, rfl, hcell⟩ := RowAt.one hcv (i := s.piece) (by simpa [intsV] using hlt)
    have hc1 : w.cell? ⟨bc, oc + s.piece, none⟩ = some (.int .i64 (s.cuts.getD s.piece 0)) := by
      rw [hcell s.piece (by simpa [intsV] using hlt)]; simp [intsV, intV, hlt]
    have hlt' : ((s.piece : Int) < s.cuts.length) := by omega
    have hne : bc ≠ b := fun e => hnc bc ⟨_, _, _, rfl, by omega, rfl⟩ (e ▸ hN)
    have hne2 : b ≠ bc := fun e => hne e.symm
    clear hcell
    generalize hg : s.cuts.getD s.piece 0 = x at *
    have HG := Lib.hid hg
    clear hg
    go_enter Tryd.func29, Tryd.ntmps29
    go_wp2
    go_region
    go_wp2
    go_region
    go_wp2
    go_region
    go_wp2
    all_goals go_end0
    all_goals
      have hL : (s.nx.left : Int) = min ((s.data.length : Int) - s.pos) (max 1 x) := by simp only [Src.nx, if_pos hlt, HG.out]; omega
      have hP : s.nx.pos = s.pos := rfl
      have hQ : s.nx.piece = s.piece + 1 := rfl
      have hW : s.nx.wth = s.wth := rfl
      refine ⟨rfl, SrcAt.renew (s := s) ?_ ((heap_set (heap_set (heap_set H0.out _) _) _).trans ?_) HE.out hdv hcv hnd hnc hN rfl rfl rfl, ?_⟩
      · repeat (first | exact Keep.refl _ _ | apply Keep.set1 | apply Keep.drew)
      · simp [hL, hP, hQ, hW]
        omega
      · repeat (first | exact Keep.refl _ _ | apply Keep.set1 | apply Keep.drew)
  · have hlt' : ¬ ((s.piece : Int) < s.cuts.length) := by omega
    go_enter Tryd.func29, Tryd.ntmps29
    go_wp2
    go_region
    go_wp2
    go_region
    go_wp2
    go_end0
    have hk : Keep (fun k => k = b) w ((w.setCell { block := b, off := 6 } (Value.int IntKind.i64 (↑s.data.length - ↑s.pos))).setCell { block := b, off := 5 } (Value.int IntKind.i64 (↑s.piece + 1))).drew.drew :=
      ((((Keep.refl _ w).set1 6 _).set1 5 _).drew).drew
    refine ⟨rfl, ?_, hk⟩
    refine SrcAt.renew hk ((heap_set (heap_set H0.out _) _).trans ?_) HE.out hdv hcv hnd hnc hN rfl rfl rfl
    have hlt2 : ¬ s.piece < s.cuts.length := hlt
    simp [Src.nx, hlt2]
    omega
end Go.Proofs.YtfigpbcmnlkdjaaDoor
