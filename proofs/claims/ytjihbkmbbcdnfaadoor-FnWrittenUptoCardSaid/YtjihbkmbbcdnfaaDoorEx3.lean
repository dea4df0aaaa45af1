/-
  The exact law's own helpers over parts: toByteS, toByteSS, eqByteSS, markByteSS.
-/
import Derived.Test.YtjihbkmbbcdnfaaDoorEx2
namespace Go.Proofs.YtjihbkmbbcdnfaaDoor
open Go.RowKit

theorem infoBytes : (Tryd.prog.info? 27).map (fun i => (i.zero, i.size, i.bytes)) = some (some (.slice none 0 0), 1, 24) := by kernel_rfl

def zerosV (n : Nat) : List Value := List.replicate n (.int .u8 0)
theorem zerosV_length (n : Nat) : (zerosV n).length = n := by simp [zerosV]

def TInv (w : World) (g : Nat) (l : List UInt8) (gh : Nat) (i : Value) (wr : World) : Prop :=
  ∃ j : Nat, j ≤ l.length ∧ i = .int .i64 j ∧ wr.ownsRow w.heap.size 5 1 (.slice (some ⟨g, 0, none⟩) l.length l.length) l.length (bytesV (l.take j) ++ zerosV (l.length - j)) ∧ New w wr ∧ gh = l.length - j

theorem copy_step (l : List UInt8) (j : Nat) (hj : j < l.length) : (bytesV (l.take j) ++ zerosV (l.length - j)).set j (.int .u8 (l[j].toNat : Int)) = bytesV (l.take (j + 1)) ++ zerosV (l.length - (j + 1)) := by
  have h1 : (bytesV (l.take j)).length = j := by rw [bytesV_length]; simp; omega
  rw [List.set_append_right _ _ (by omega), h1, Nat.sub_self, List.take_succ_eq_append_getElem hj, bytesV_append]
  have : l.length - j = (l.length - (j + 1)) + 1 := by omega
  rw [this, zerosV, List.replicate_succ, List.set_cons_zero]
  simp [bytesV, byteV, zerosV]

set_option maxRecDepth 100000 in
set_option maxHeartbeats 1000000 in
theorem toByteS_any (w : World) (v : Value) (l : List UInt8) (h : BytesAt w v l) (hl : l.length ≤ 140737488355328) :
    Calls Tryd.prog 35 #[v] w fun e w' => e = .returned (.slice (some ⟨w.heap.size, 0, none⟩) l.length l.length) ∧
      w'.ownsRow w.heap.size 5 1 (.slice (some ⟨w.heap.size, 0, none⟩) l.length l.length) l.length (bytesV l) ∧ New w w' := by
  obtain ⟨a, c, rfl, p1, p2, p3, p4⟩ := id h
  rw [bytesV_length] at p1 h ⊢
  have H := Lib.hid h
  have hmk := fun w => run_make_row' (P := Tryd.prog) 27 5 (.int .u8 0) 1 Tryd.underlying27 infoByte rfl .i64 .i64 l.length (by omega) (by omega) w
  have H0 : Hid (TInv w w.heap.size l l.length (.int .i64 0) (w.alloc (.cells (madeCells #[.int .u8 0] l.length) 5))) := by
    refine ⟨0, Nat.zero_le _, rfl, ?_, (Keep.refl _ _).alloc _, rfl⟩
    have := World.ownsRow_made (base := w.heap.size) (e := 5) (size := 1) w (madeCells #[.int .u8 0] l.length) l.length (Nat.le_refl _) (by unfold maxLen; omega) (by simp [size_madeCells])
    refine ⟨by simp [bytesV, zerosV], .inr ⟨w.heap.size, l.length, madeCells #[.int .u8 0] l.length, rfl, Nat.le_refl _, heap_alloc_new _ _, Nat.le_refl _, by unfold maxLen; omega, by simp [size_madeCells], ?_⟩⟩
    rw [toList_madeCells_one]; simp [bytesV, zerosV]
  clear h p2 p3 p4
  go_enter Tryd.func35, Tryd.ntmps35
  go_wp2_with fail
  go_loopg [4] l.length (fun g i wr => TInv w w.heap.size l g i wr)
  case atStart => exact H0.out
  case round =>
    obtain ⟨j, hj, rfl, hown, hnw, rfl⟩ := hrel
    by_cases hlt : j < l.length
    · obtain ⟨b, o, rfl, hc⟩ := bytes_one (H.out.new hnw) hlt
      have q := hc j hlt
      obtain ⟨u, hu⟩ : ∃ u : UInt8, u = l[j] := ⟨_, rfl⟩
      rw [← hu] at q
      have hfz := hown.frozenAt j
      obtain ⟨old, hold⟩ : ∃ x, wr.cell? ⟨w.heap.size, j, none⟩ = some x := by
        rw [hown.cellAt j (by omega)]
        exact ⟨_, List.getElem?_eq_getElem (by rw [List.length_append, bytesV_length, zerosV_length]; simp; omega)⟩
      have hst := hown.stored j (.int .u8 (u.toNat : Int))
      rw [hu, copy_step l j hlt, ← hu] at hst
      have H2 : Hid (TInv w w.heap.size l (l.length - (j + 1)) (.int .i64 ((j : Int) + 1)) (wr.setCell ⟨w.heap.size, j, none⟩ (.int .u8 (u.toNat : Int)))) :=
        ⟨j + 1, hlt, by go_num, hst.1, hnw.setCell (p := ⟨w.heap.size, j, none⟩) (.inr (Nat.le_refl _)) _, rfl⟩
      have hlt' : (j : Int) < l.length := by omega
      have b1 := u.toNat_lt
      clear hown hnw hst hc hu
      go_wp2
      go_roundg (l.length - (j + 1))
      case measure => omega
      case rel => exact H2.out
    · obtain rfl : j = l.length := by omega
      have hnl : ¬ ((l.length : Int) < l.length) := by omega
      have hown2 : wr.ownsRow w.heap.size 5 1 (.slice (some ⟨w.heap.size, 0, none⟩) l.length l.length) l.length (bytesV l) := by
        simpa [zerosV] using hown
      have Hown := Lib.hid hown2
      clear hown hown2
      go_wp2
      go_ret
      exact ⟨rfl, Hown.out, hnw⟩

/-- Rows of their own for the parts, in blocks one behind another. -/
structure OwnParts (w : World) (base g : Nat) (us : List Value) (ps : List (List UInt8)) : Prop where
  len : us.length = ps.length
  row : ∀ (j : Nat) (u : Value) (p : List UInt8), us[j]? = some u → ps[j]? = some p → ∃ b, u = .slice (some ⟨b, 0, none⟩) p.length p.length ∧ g < b ∧ b < w.heap.size ∧ w.ownsRow base 5 1 u p.length (bytesV p)
  inc : ∀ (i j : Nat) (u v : Value) (b : Nat), i ≠ j → us[i]? = some u → us[j]? = some v → u.ownBlock = some b → v.ownBlock ≠ some b

theorem OwnParts.keep {S : Nat → Prop} {w w' : World} {base g : Nat} {us : List Value} {ps : List (List UInt8)} (h : OwnParts w base g us ps) (k : Keep S w w') (hS : ∀ i, g < i → ¬ S i) : OwnParts w' base g us ps := by
  refine ⟨h.len, fun j u p hu hp => ?_, h.inc⟩
  obtain ⟨b, e, h1, h2, h3⟩ := h.row j u p hu hp
  refine ⟨b, e, h1, by have := k.size; omega, ownsRow_keep h3 k (fun i hi => ?_)⟩
  subst e
  cases hi
  exact hS _ h1

def nilsV (n : Nat) : List Value := List.replicate n (.slice none 0 0)
theorem nilsV_length (n : Nat) : (nilsV n).length = n := by simp [nilsV]

theorem put_step (us : List Value) (n j : Nat) (hj : j < n) (hu : us.length = j) (x : Value) : (us ++ nilsV (n - j)).set j x = (us ++ [x]) ++ nilsV (n - (j + 1)) := by
  rw [List.set_append_right _ _ (by omega), hu, Nat.sub_self]
  have : n - j = (n - (j + 1)) + 1 := by omega
  rw [this, nilsV, List.replicate_succ, List.set_cons_zero]
  simp [nilsV]

def TTInv (w : World) (g : Nat) (ps : List (List UInt8)) (gh : Nat) (i : Value) (wr : World) : Prop :=
  ∃ (j : Nat) (us : List Value), j ≤ ps.length ∧ i = .int .i64 j ∧ wr.ownsRow w.heap.size 27 1 (.slice (some ⟨g, 0, none⟩) ps.length ps.length) ps.length (us ++ nilsV (ps.length - j)) ∧ OwnParts wr w.heap.size g us (ps.take j) ∧ New w wr ∧ g < wr.heap.size ∧ gh = ps.length - j

theorem ownParts_snoc {w w2 w3 : World} {base g : Nat} {us : List Value} {qs : List (List UInt8)} {p : List UInt8} (h : OwnParts w base g us qs) (hg : g < w.heap.size) (hb : base ≤ w.heap.size) (hn : New w w2)
    (ho : w2.ownsRow w.heap.size 5 1 (.slice (some ⟨w.heap.size, 0, none⟩) p.length p.length) p.length (bytesV p)) (k : Keep (fun i => i = g) w2 w3) :
    OwnParts w3 base g (us ++ [.slice (some ⟨w.heap.size, 0, none⟩) p.length p.length]) (qs ++ [p]) := by
  have h2 : OwnParts w2 base g us qs := h.keep hn (fun _ _ f => f)
  have hlt : w.heap.size < w2.heap.size := (ho.lt w.heap.size rfl).2
  have hlast : ∀ (j : Nat) (u : Value) (q : List UInt8), j = us.length → (us ++ [Value.slice (some ⟨w.heap.size, 0, none⟩) p.length p.length])[j]? = some u → (qs ++ [p])[j]? = some q → u = .slice (some ⟨w.heap.size, 0, none⟩) p.length p.length ∧ q = p := by
    intro j u q e hu hq
    subst e
    rw [List.getElem?_append_right (Nat.le_refl _), Nat.sub_self] at hu
    rw [h.len, List.getElem?_append_right (Nat.le_refl _), Nat.sub_self] at hq
    simp at hu hq
    exact ⟨hu.symm, hq.symm⟩
  refine ⟨by simp [h.len], fun j u q hu hq => ?_, fun i j u v b hij hu hv hb' => ?_⟩
  · by_cases e : j < us.length
    · rw [List.getElem?_append_left e] at hu
      rw [List.getElem?_append_left (by rw [← h.len]; exact e)] at hq
      obtain ⟨b, e1, e2, e3, e4⟩ := h2.row j u q hu hq
      refine ⟨b, e1, e2, by have := k.size; omega, ownsRow_keep e4 k (fun i hi e => ?_)⟩
      subst e1
      have hi2 : b = i := Option.some.inj hi
      omega
    · have hj : j = us.length := by
        have := (List.getElem?_eq_some_iff.1 hu).1
        simp at this; omega
      obtain ⟨rfl, rfl⟩ := hlast j u q hj hu hq
      refine ⟨w.heap.size, rfl, hg, by have := k.size; omega, ownsRow_lower (ownsRow_keep ho k (fun i hi e => ?_)) hb⟩
      have hi2 : w.heap.size = i := Option.some.inj hi
      omega
  · have old : ∀ (i : Nat) (u : Value), i < us.length → us[i]? = some u → ∃ b, u.ownBlock = some b ∧ b < w.heap.size := by
      intro i u hi hu
      obtain ⟨q, hq⟩ : ∃ q, qs[i]? = some q := ⟨_, List.getElem?_eq_getElem (by rw [← h.len]; exact hi)⟩
      obtain ⟨b, e1, _, e3, _⟩ := h.row i u q hu hq
      exact ⟨b, by rw [e1]; rfl, e3⟩
    have hi' := (List.getElem?_eq_some_iff.1 hu).1
    have hj' := (List.getElem?_eq_some_iff.1 hv).1
    simp at hi' hj'
    by_cases ei : i < us.length
    · rw [List.getElem?_append_left ei] at hu
      obtain ⟨bi, e1, e2⟩ := old i u ei hu
      rw [e1] at hb'
      cases hb'
      by_cases ej : j < us.length
      · rw [List.getElem?_append_left ej] at hv
        exact h.inc i j u v _ hij hu hv e1
      · rw [List.getElem?_append_right (by omega), show j - us.length = 0 by omega] at hv
        simp at hv
        subst hv
        intro e
        have e3 : w.heap.size = _ := Option.some.inj e
        omega
    · rw [List.getElem?_append_right (by omega), show i - us.length = 0 by omega] at hu
      simp at hu
      subst hu
      have hb2 : w.heap.size = b := Option.some.inj hb'
      have ej : j < us.length := by omega
      rw [List.getElem?_append_left ej] at hv
      obtain ⟨bj, e1, e2⟩ := old j v ej hv
      rw [e1]
      intro e
      have e3 := Option.some.inj e
      omega

set_option maxRecDepth 100000 in
set_option maxHeartbeats 1000000 in
theorem toByteSS_any (w : World) (v : Value) (ps : List (List UInt8)) (hv : PartsAt w v ps) (hl : (joined ps).length ≤ 140737488355328) (hn : ps.length ≤ 1048576) :
    Calls Tryd.prog 15 #[v] w fun e w' => e = .returned (.slice (some ⟨w.heap.size, 0, none⟩) ps.length ps.length) ∧ ∃ us,
      w'.ownsRow w.heap.size 27 1 (.slice (some ⟨w.heap.size, 0, none⟩) ps.length ps.length) ps.length us ∧ OwnParts w' w.heap.size w.heap.size us ps ∧ New w w' := by
  obtain ⟨pvs, hrow, hpl, hps⟩ := hv
  obtain ⟨a, c, rfl, p1, p2, p3, p4⟩ := id hrow
  rw [hpl] at p1 hrow ⊢
  have HR := Lib.hid hrow
  have HPs := Lib.hid hps
  have Hpl := Lib.hid hpl
  have hmk := fun w => run_make_row' (P := Tryd.prog) 25 27 (.slice none 0 0) 24 Tryd.underlying25 infoBytes rfl .i64 .i64 ps.length (by omega) (by omega) w
  have H0 : Hid (TTInv w w.heap.size ps ps.length (.int .i64 0) (w.alloc (.cells (madeCells #[.slice none 0 0] ps.length) 27))) := by
    refine ⟨0, [], Nat.zero_le _, rfl, ⟨by simp [nilsV], .inr ⟨w.heap.size, ps.length, madeCells #[.slice none 0 0] ps.length, rfl, Nat.le_refl _, heap_alloc_new _ _, Nat.le_refl _, by unfold maxLen; omega, by simp [size_madeCells], ?_⟩⟩, ⟨rfl, fun j u p hu => by simp at hu, fun i j u v b _ hu => by simp at hu⟩, (Keep.refl _ _).alloc _, by simp, rfl⟩
    rw [toList_madeCells_one]; simp [nilsV]
  clear hrow hps hpl p2 p3 p4
  go_enter Tryd.func15, Tryd.ntmps15
  go_wp2_with fail
  go_loopg [4] ps.length (fun g i wr => TTInv w w.heap.size ps g i wr)
  case atStart => exact H0.out
  case round =>
    obtain ⟨k, us, hk, rfl, hown, hop, hnw, hgs, rfl⟩ := hrel
    by_cases hlt : k < ps.length
    · obtain ⟨p, hp⟩ : ∃ p, ps[k]? = some p := ⟨_, List.getElem?_eq_getElem hlt⟩
      obtain ⟨u, hu⟩ : ∃ u, pvs[k]? = some u := ⟨_, List.getElem?_eq_getElem (by rw [Hpl.out]; exact hlt)⟩
      have hup := HPs.out k u p hu hp
      obtain ⟨ba, oa, rfl, hcell⟩ := RowAt.one HR.out (i := k) (by rw [Hpl.out]; exact hlt)
      obtain ⟨au, cu, rfl, _⟩ := id hup
      rw [bytesV_length] at hup hu
      have hc : wr.cell? ⟨ba, oa + k, none⟩ = some (.slice au p.length cu) := hnw.cellAt (by
        rw [hcell k (by rw [Hpl.out]; exact hlt)]
        have := List.getElem?_eq_some_iff.1 hu
        rw [this.2])
      have hjs := joined_take_succ ps k p hp
      have hjl := joined_take_le ps (k + 1)
      have hpl : p.length ≤ 140737488355328 := by rw [hjs] at hjl; simp at hjl; omega
      have htk : ps.take (k + 1) = ps.take k ++ [p] := by rw [List.take_add_one, hp]; rfl
      have hul : us.length = k := by rw [hop.len]; simp; omega
      have Hup := Lib.hid (hup.new hnw)
      have Hown := Lib.hid hown
      have Hop := Lib.hid hop
      have Hnw := Lib.hid hnw
      have Htk := Lib.hid htk
      have Hul := Lib.hid hul
      have hlt' : (k : Int) < ps.length := by omega
      have hbase := hnw.size
      clear hup hjs hjl hcell hu hp hnw hown hop htk hul
      go_wp2_with fail
      refine (toByteS_any _ _ p Hup.out hpl).mono ?_
      rintro e w3 ⟨rfl, ho3, hn3⟩
      have hown3 : w3.ownsRow w.heap.size 27 1 (.slice (some ⟨w.heap.size, 0, none⟩) ps.length ps.length) ps.length (us ++ nilsV (ps.length - k)) := ownsRow_keep Hown.out hn3 (fun _ _ f => f)
      have hfz := hown3.frozenAt k
      obtain ⟨old, hold⟩ : ∃ x, w3.cell? ⟨w.heap.size, k, none⟩ = some x := by
        rw [hown3.cellAt k (by omega)]
        exact ⟨_, List.getElem?_eq_getElem (by rw [List.length_append, Hul.out, nilsV_length]; omega)⟩
      have hst := hown3.stored k (.slice (some ⟨wr.heap.size, 0, none⟩) p.length p.length)
      rw [put_step us ps.length k hlt Hul.out] at hst
      have hk3 : Keep (fun i => i = w.heap.size) w3 (w3.setCell ⟨w.heap.size, k, none⟩ (.slice (some ⟨wr.heap.size, 0, none⟩) p.length p.length)) := (Keep.refl _ _).set1 _ _
      have hop3 := ownParts_snoc Hop.out hgs hbase hn3 ho3 hk3
      rw [← Htk.out] at hop3
      have H2 : Hid (TTInv w w.heap.size ps (ps.length - (k + 1)) (.int .i64 ((k : Int) + 1)) (w3.setCell ⟨w.heap.size, k, none⟩ (.slice (some ⟨wr.heap.size, 0, none⟩) p.length p.length))) :=
        ⟨k + 1, us ++ [.slice (some ⟨wr.heap.size, 0, none⟩) p.length p.length], hlt, by go_num, hst.1, hop3, (Hnw.out.then hn3).setCell (p := ⟨w.heap.size, k, none⟩) (.inr (Nat.le_refl _)) _, by have := hk3.size; have := hn3.size; omega, rfl⟩
      clear ho3 hn3 hown3 hst hk3 hop3
      go_wp2
      go_roundg (ps.length - (k + 1))
      case measure => omega
      case rel => exact H2.out
    · obtain rfl : k = ps.length := by omega
      have hnl : ¬ ((ps.length : Int) < ps.length) := by omega
      have hown2 : wr.ownsRow w.heap.size 27 1 (.slice (some ⟨w.heap.size, 0, none⟩) ps.length ps.length) ps.length us := by
        simpa [nilsV] using hown
      rw [List.take_length] at hop
      have Hown := Lib.hid hown2
      have Hop := Lib.hid hop
      clear hown hown2 hop
      go_wp2
      go_ret
      exact ⟨rfl, us, Hown.out, Hop.out, hnw⟩

theorem OwnParts.parts {w : World} {base g n : Nat} {us : List Value} {ps : List (List UInt8)} (h : OwnParts w base g us ps) (ho : w.ownsRow base 27 1 (.slice (some ⟨g, 0, none⟩) n n) n us) : PartsAt w (.slice (some ⟨g, 0, none⟩) n n) ps :=
  ⟨us, ownsRow_rowAt ho, h.len, fun j u p hu hp => by
    obtain ⟨b, e1, _, _, e4⟩ := h.row j u p hu hp
    exact ownsRow_rowAt e4⟩

end Go.Proofs.YtjihbkmbbcdnfaaDoor
