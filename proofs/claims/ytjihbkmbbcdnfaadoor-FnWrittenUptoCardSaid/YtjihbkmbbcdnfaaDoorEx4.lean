/-
  The exact law's own helpers over parts: eqByteSS, markByteSS, toSink.
-/
import Derived.Test.YtjihbkmbbcdnfaaDoorEx3
namespace Go.Proofs.YtjihbkmbbcdnfaaDoor
open Go.RowKit

def EEInv (w : World) (n : Nat) (g : Nat) (i : Value) (wr : World) : Prop := ∃ k : Nat, k ≤ n ∧ i = .int .i64 k ∧ New w wr ∧ g = n - k

theorem PartsAt.at {w : World} {a : Option Addr} {n c : Nat} {ps : List (List UInt8)} (h : PartsAt w (.slice a n c) ps) {k : Nat} (hk : k < ps.length) :
    ∃ b o ap cp, a = some ⟨b, o, none⟩ ∧ w.cell? ⟨b, o + k, none⟩ = some (.slice ap ps[k].length cp) ∧ BytesAt w (.slice ap ps[k].length cp) ps[k] := by
  obtain ⟨pvs, hrow, hpl, hps⟩ := h
  obtain ⟨b, o, e, hcell⟩ := RowAt.one hrow (i := k) (by omega)
  have hu : pvs[k]? = some (pvs[k]'(by omega)) := List.getElem?_eq_getElem (by omega)
  have hup := hps k _ _ hu (List.getElem?_eq_getElem hk)
  obtain ⟨ap, cp, e2, _⟩ := id hup
  rw [bytesV_length] at e2
  refine ⟨b, o, ap, cp, e, ?_, ?_⟩
  · rw [hcell k (by omega), e2]
  · rw [← e2]; exact hup

theorem PartsAt.len {w : World} {v : Value} {ps : List (List UInt8)} (h : PartsAt w v ps) : ∃ a c, v = .slice a ps.length c ∧ ps.length ≤ 9223372036854775807 := by
  obtain ⟨pvs, ⟨a, c, e, h1, h2, _⟩, hpl, _⟩ := h
  rw [hpl] at e h1
  exact ⟨a, c, e, by unfold maxLen at h2; omega⟩

set_option maxRecDepth 100000 in
set_option maxHeartbeats 1000000 in
theorem eqByteSS_same (w : World) (v1 v2 : Value) (ps : List (List UInt8)) (h1 : PartsAt w v1 ps) (h2 : PartsAt w v2 ps) (hl : (joined ps).length ≤ 140737488355328) :
    Calls Tryd.prog 18 #[v1, v2] w fun e w' => e = .returned (.bool true) ∧ New w w' := by
  obtain ⟨a1, c1, rfl, hm⟩ := h1.len
  obtain ⟨a2, c2, rfl, _⟩ := h2.len
  have H1 := Lib.hid h1
  have H2 := Lib.hid h2
  have H0 : Hid (EEInv w ps.length ps.length (.int .i64 0) w) := ⟨0, Nat.zero_le _, rfl, Keep.refl _ _, rfl⟩
  clear h1 h2
  go_enter Tryd.func18, Tryd.ntmps18
  go_wp2_with fail
  go_loopg [5] ps.length (fun g i wr => EEInv w ps.length g i wr)
  case atStart => exact H0.out
  case round =>
    obtain ⟨k, hk, rfl, hnw, rfl⟩ := hrel
    by_cases hlt : k < ps.length
    · obtain ⟨b1, o1, ap1, cp1, rfl, q1, r1⟩ := (H1.out.new hnw).at hlt
      obtain ⟨b2, o2, ap2, cp2, rfl, q2, r2⟩ := (H2.out.new hnw).at hlt
      have hp := List.getElem?_eq_getElem hlt
      have hjs := joined_take_succ ps k _ hp
      have hjl := joined_take_le ps (k + 1)
      obtain ⟨p, hpp⟩ : ∃ p, p = ps[k] := ⟨_, rfl⟩
      rw [← hpp] at q1 r1 q2 r2 hjs
      have hpl : p.length ≤ 9223372036854775807 := by rw [hjs] at hjl; simp at hjl; omega
      have R1 : Hid (BytesAt wr.drew (.slice ap1 p.length cp1) p) := r1
      have R2 : Hid (BytesAt wr.drew (.slice ap2 p.length cp2) p) := r2
      have Hnw := Lib.hid hnw
      have hlt' : (k : Int) < ps.length := by omega
      have HS := Lib.hid (fun (w' : World) (h : New wr.drew w') => (show w'.cell? ⟨b1, o1 + k, none⟩ = some (.slice ap1 p.length cp1) ∧ w'.cell? ⟨b2, o2 + k, none⟩ = some (.slice ap2 p.length cp2) from ⟨New.cellAt h q1, New.cellAt h q2⟩))
      clear r1 r2 hnw hjs hjl hp hpp
      go_wp2_with fail
      go_region_held3 (fun w' => w'.cell? ⟨b1, o1 + k, none⟩ = some (.slice ap1 p.length cp1) ∧ w'.cell? ⟨b2, o2 + k, none⟩ = some (.slice ap2 p.length cp2))
        (first | exact ⟨q1, q2⟩ | exact HS.out _ hn1)
        (first | (go_at_call 17; refine (eqByteS_gen _ _ _ p p R1.out R2.out hpl true (by simp)).mono ?_; rintro e w1 ⟨rfl, hn1⟩))
      rename_i hh
      have HN : Hid (New w w1) := (Hnw.out.drew).then hn1
      clear hh HS hn1
      go_wp2
      go_roundg (ps.length - (k + 1))
      case measure => omega
      case rel => exact ⟨k + 1, hlt, by go_num, HN.out, rfl⟩
    · obtain rfl : k = ps.length := by omega
      have hnl : ¬ ((ps.length : Int) < ps.length) := by omega
      go_wp2
      go_ret
      exact ⟨rfl, hnw⟩

/-- The blocks of rows. -/
def partsSet (us : List Value) : Nat → Prop := fun i => ∃ u ∈ us, u.ownBlock = some i

theorem OwnParts.mark {w w' : World} {base g j : Nat} {us : List Value} {qs : List (List UInt8)} {u : Value} {q xs : List UInt8} (h : OwnParts w base g us qs) (hu : us[j]? = some u) (hq : qs[j]? = some q) (hx : xs.length = q.length)
    (ho : w'.ownsRow base 5 1 u q.length (bytesV xs)) (k : Keep (fun b => u.ownBlock = some b) w w') : OwnParts w' base g us (qs.set j xs) := by
  refine ⟨by simp [h.len], fun i v p hv hp => ?_, h.inc⟩
  have hj : j < qs.length := (List.getElem?_eq_some_iff.1 hq).1
  by_cases e : i = j
  · subst e
    rw [List.getElem?_set_self hj] at hp
    cases hp
    rw [hu] at hv
    cases hv
    obtain ⟨b, e1, e2, e3, e4⟩ := h.row i u q hu hq
    refine ⟨b, by rw [hx]; exact e1, e2, by have := k.size; omega, by rw [hx]; exact ho⟩
  · rw [List.getElem?_set_ne (fun e' => e e'.symm)] at hp
    obtain ⟨b, e1, e2, e3, e4⟩ := h.row i v p hv hp
    refine ⟨b, e1, e2, by have := k.size; omega, ownsRow_keep e4 k (fun m hm hs => ?_)⟩
    exact h.inc j i u v m (fun e' => e e'.symm) hu hv hs hm

def MMInv (w : World) (base g : Nat) (us : List Value) (ps : List (List UInt8)) (k : Nat) (gh : Nat) (x i : Value) (wr : World) : Prop :=
  ∃ (j : Nat) (qs : List (List UInt8)), j ≤ ps.length ∧ i = .int .i64 j ∧ x = .int .i64 ((k + (joined (ps.take j)).length : Nat) : Int) ∧ OwnParts wr base g us qs ∧ (∀ m : Nat, (qs[m]?).map List.length = (ps[m]?).map List.length) ∧ Keep (partsSet us) w wr ∧ gh = ps.length - j

set_option maxRecDepth 100000 in
set_option maxHeartbeats 1000000 in
theorem markByteSS_any (w : World) (base g k : Nat) (us : List Value) (ps : List (List UInt8)) (ho : w.ownsRow base 27 1 (.slice (some ⟨g, 0, none⟩) ps.length ps.length) ps.length us) (hop : OwnParts w base g us ps)
    (hl : (joined ps).length ≤ 140737488355328) (hk : k ≤ 4611686018427) (hn : ps.length ≤ 1048576) :
    Calls Tryd.prog 19 #[.slice (some ⟨g, 0, none⟩) ps.length ps.length, .int .i64 k] w fun e w' => e = .returned (.int .i64 ((k + (joined ps).length : Nat) : Int)) ∧ Keep (partsSet us) w w' := by
  have H0 : Hid (MMInv w base g us ps k ps.length (.int .i64 k) (.int .i64 0) w) := ⟨0, ps, Nat.zero_le _, rfl, by simp [joined], hop, fun _ => rfl, Keep.refl _ _, rfl⟩
  have HO := Lib.hid ho
  have Hlen := Lib.hid hop.len
  have HG : Hid (¬ partsSet us g) := fun ⟨u, hu, e⟩ => by
    obtain ⟨i, hi⟩ := List.getElem?_of_mem hu
    obtain ⟨p, hp⟩ : ∃ p, ps[i]? = some p := ⟨_, List.getElem?_eq_getElem (by have := (List.getElem?_eq_some_iff.1 hi).1; rw [← hop.len]; exact this)⟩
    obtain ⟨b, e1, e2, _⟩ := hop.row i u p hi hp
    rw [e1] at e
    have e3 : b = g := Option.some.inj e
    omega
  clear ho hop
  go_enter Tryd.func19, Tryd.ntmps19
  go_wp2_with fail
  go_loopg [1, 5] ps.length (fun gh x i wr => MMInv w base g us ps k gh x i wr)
  case atStart => exact H0.out
  case round =>
    obtain ⟨j, qs, hj, rfl, rfl, hop, hqs, hkw, rfl⟩ := hrel
    by_cases hlt : j < ps.length
    · obtain ⟨p, hp⟩ : ∃ p, ps[j]? = some p := ⟨_, List.getElem?_eq_getElem hlt⟩
      obtain ⟨u, hu⟩ : ∃ u, us[j]? = some u := ⟨_, List.getElem?_eq_getElem (by rw [Hlen.out]; exact hlt)⟩
      obtain ⟨q, hq, hql⟩ : ∃ q, qs[j]? = some q ∧ q.length = p.length := by
        have := hqs j
        rw [hp] at this
        cases hqj : qs[j]? with
        | none => rw [hqj] at this; cases this
        | some q => rw [hqj] at this; exact ⟨q, rfl, Option.some.inj this⟩
      obtain ⟨b, e1, e2, e3, e4⟩ := hop.row j u q hu hq
      subst e1
      have hc : wr.cell? ⟨g, j, none⟩ = some (.slice (some ⟨b, 0, none⟩) q.length q.length) := by
        rw [(ownsRow_keep HO.out hkw (fun i hi => by cases hi; exact HG.out)).cellAt j (by omega)]
        exact hu
      have hjs := joined_take_succ ps j p hp
      have hjl := joined_take_le ps (j + 1)
      obtain ⟨t, ht⟩ : ∃ t, t = k + (joined (ps.take j)).length := ⟨_, rfl⟩
      have htl : t + q.length ≤ 4611686018427387904 := by rw [hjs] at hjl; simp at hjl; omega
      have Ht : Hid (t + q.length = k + (joined (ps.take (j + 1))).length) := by show _ = _; rw [hjs]; simp; omega
      rw [← ht]
      have He4 := Lib.hid e4
      have Hop := Lib.hid hop
      have Hqs := Lib.hid hqs
      have Hkw := Lib.hid hkw
      have Hu := Lib.hid hu
      have Hq := Lib.hid hq
      have hlt' : (j : Int) < ps.length := by omega
      clear hjs hjl ht hp hql hop hqs hkw hu hq e4
      go_wp2_with fail
      refine (markByteS_any _ base (some ⟨b, 0, none⟩) q.length q.length t q rfl He4.out htl).mono ?_
      rintro e w3 ⟨rfl, ho3, hk3⟩
      have H2 : Hid (MMInv w base g us ps k (ps.length - (j + 1)) (.int .i64 ((t + q.length : Nat) : Int)) (.int .i64 ((j : Int) + 1)) w3) := by
        refine ⟨j + 1, qs.set j (marks t q.length), hlt, by go_num, by rw [Ht.out], Hop.out.mark Hu.out Hq.out (marks_length _ _) ho3 hk3, fun m => ?_, Hkw.out.trans hk3 (fun i _ e => ⟨_, List.mem_of_getElem? Hu.out, e⟩), rfl⟩
        rw [← Hqs.out m]
        by_cases e : j = m
        · subst e
          rw [List.getElem?_set_self (List.getElem?_eq_some_iff.1 Hq.out).1, Hq.out]
          simp [marks_length]
        · rw [List.getElem?_set_ne e]
      clear ho3 hk3
      go_wp2
      go_roundg (ps.length - (j + 1))
      case measure => omega
      case rel => exact H2.out
    · obtain rfl : j = ps.length := by omega
      have hnl : ¬ ((ps.length : Int) < ps.length) := by omega
      rw [List.take_length]
      go_wp2
      go_ret
      exact ⟨rfl, hkw⟩

theorem toSink_any (w : World) (r : Int) : Calls Tryd.prog 14 #[.agg #[.int .i64 r]] w fun e w' => e = .returned (.agg #[.int .i64 r]) ∧ New w w' := by
  go_enter Tryd.func14, Tryd.ntmps14
  go_wp2
  refine bodyPost_ret (v := .agg #[.int .i64 r]) (by simp [results, Tryd.results14, go_sem]) rfl ⟨rfl, ?_⟩
  repeat (first | exact Keep.refl _ _ | apply Keep.drew | apply Keep.alloc)
end Go.Proofs.YtjihbkmbbcdnfaaDoor
