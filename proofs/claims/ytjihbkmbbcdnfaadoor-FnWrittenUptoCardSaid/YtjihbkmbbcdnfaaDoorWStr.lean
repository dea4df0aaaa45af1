/-
  copy out of a string, and the walk of WriteString.
-/
import Derived.Test.YtjihbkmbbcdnfaaDoorWByte
import Derived.Lib.Strings
import Derived.Stop.Asserts
namespace Go.Proofs.YtjihbkmbbcdnfaaDoor
open Go.RowKit

section
variable {P : Program} {w : World}

theorem run_copy_str (dT sT ty elem : TypeId) (hu : P.underlying dT = some (.slice elem)) (hsz : (P.info? elem).map (·.size) = some 1)
    (dp : Option Addr) (dLen dCap : Nat) (s : ByteArray) (g off : Nat) (cur : List Value) (t : TypeId) (hg : w.heap[g]? = some (.cells cur.toArray t (0, 0)))
    (cs : List Value) (hcs : cs = (bytesV s.data.toList).take (Nat.min s.size dLen)) (hd : 0 < cs.length → dp = some ⟨g, off, none⟩) (hfit : off + cs.length ≤ cur.length) :
    ∃ w', (Builtin.copy_ #[dT, sT] ty #[.slice dp dLen dCap, .string s]).run P w = .ok (goInt cs.length) w' ∧
      w'.heap[g]? = some (.cells (splice cur off cs).toArray t (0, 0)) ∧ Keep (fun k => k = g) w w' := by
  have hl : cs.length = Nat.min s.size dLen := by
    rw [hcs, List.length_take, bytesV_length, ← Lib.size_eq]; exact Nat.min_eq_left (Nat.min_le_left _ _)
  have h1 : ∀ v ∈ cs, v.oneCell' = true := fun v hv => by rw [hcs] at hv; exact bytesV_one _ v (List.mem_of_mem_take hv)
  have htk : List.take (Nat.min s.size dLen) (List.map (fun b : UInt8 => Value.int IntKind.u8 (b.toNat : Int)) s.data.toList) = cs := by rw [hcs]; rfl
  by_cases h0 : cs.length = 0
  · obtain rfl : cs = [] := List.eq_nil_of_length_eq_zero h0
    have hm : Nat.min s.size dLen = 0 := by simpa using hl.symm
    refine ⟨w, ?_, by simpa [splice] using hg, Keep.refl _ _⟩
    cases hq : P.info? elem with
    | none => simp [hq] at hsz
    | some i => cases dp <;> simp [Builtin.copy_, run_underlying hu, Builtin.lenOf, Builtin.firstCells, sizeOf, typeInfo, hq, hm, storeCells]
  · obtain rfl := hd (by omega)
    have hst := run_storeCells_at (P := P) g off t cs 0 cur.toArray w hg (by simpa using hfit) h1
    simp only [Nat.add_zero] at hst
    refine ⟨w.setRow g (cur.take off ++ cs ++ cur.drop (off + cs.length)).toArray, ?_, ?_, Keep.setRow (S := fun k => k = g) (Keep.refl _ w) (.inl rfl) _⟩
    · cases hq : P.info? elem with
      | none => simp [hq] at hsz
      | some i =>
        simp [Builtin.copy_, run_underlying hu, Builtin.lenOf, Builtin.firstCells, sizeOf, typeInfo, hq]
        rw [htk, hst, hl]
        simp [Result.andThen]
    · rw [setRow_heap w g _ _ t _ hg]
      simp [splice]

theorem step_copy_str {ops : Array Oper} {o : Oper} {a : Act} {K : Act → World → Prop} {Q : Exit → Act → World → Prop} {E : Prop} (hgd : o.guard = none) (d s : Operand) (dT sT : TypeId)
    (ho : o.op = .call { callee := .builtin .copy, args := #[d, s], argTypes := #[dT, sT] }) (elem : TypeId) (hu : P.underlying dT = some (.slice elem)) (hsz : (P.info? elem).map (·.size) = some 1)
    (dp : Option Addr) (dLen dCap : Nat) (sv : ByteArray) (hd0 : a.eval d = .slice dp dLen dCap) (hs0 : a.eval s = .string sv)
    (g off : Nat) (cur : List Value) (t : TypeId) (hg : w.heap[g]? = some (.cells cur.toArray t (0, 0)))
    (cs : List Value) (m : Nat) (hm : cs.length = m) (hcs : cs = (bytesV sv.data.toList).take (Nat.min sv.size dLen)) (hd : 0 < cs.length → dp = some ⟨g, off, none⟩)
    (hfit : off + cs.length ≤ cur.length)
    (h : ∀ w', Hid (w'.heap[g]? = some (.cells (splice cur off cs).toArray t (0, 0))) → Keep (fun k => k = g) w w' → K (a.put o.dst (goInt m)) w') :
    if Region.wanted o (yielded ops a.tmps) = true then Oper.wp P o a w K Q else E := by
  have hw : Region.wanted o (yielded ops a.tmps) = true := by simp [Region.wanted, hgd]
  rw [if_pos hw]
  obtain ⟨w', hrun, h2, h3⟩ := run_copy_str (P := P) dT sT o.type elem hu hsz dp dLen dCap sv g off cur t hg cs hcs hd hfit
  unfold Oper.wp
  simp [execOp, ho, resolve, invoke, builtin, hd0, hs0, hrun, Result.andThen]
  rw [hm]
  exact h w' h2 h3
end

theorem ext_end (t : ByteArray) (v : Nat) : (t.extract v t.size).data.toList = t.data.toList.drop v := by
  rw [Lib.extract_data, List.take_of_length_le]
  rw [List.length_drop, ← Lib.size_eq]
  exact Nat.le_refl _

theorem as_strw (v : Value) (w : World) : (Instr.typeAssert (.iface 62 v) 82 95 true).run Tryd.prog w = .ok (.tuple #[.nilIface, .bool false]) w :=
  run_typeAssert_lacksB Tryd.underlying95 (by kernel_rfl) (by kernel_rfl) v _ w

/-- What holds at the head of each round: x is written, q is to be written. -/
def SInv (ea : Addr) (w : World) (b bb bs : Nat) (gv : Value) (st : Wr) (B : Nat) (l : List UInt8) (g : Nat) (p sw tr nn : Value) (wr : World) : Prop :=
  ∃ (x q : List UInt8) (t : ByteArray) (tb : Bool) (s : Wr) (gk : Value), l = x ++ q ∧ nn = .int .i64 x.length ∧ p = .string t ∧ t.data.toList = q ∧ sw = .nilIface ∧ tr = .bool tb ∧
    WrAt ea wr b bb bs gk s B ∧ (∀ i, gk.ownBlock = some i → gv.ownBlock = some i ∨ w.heap.size ≤ i) ∧ Keep (wrSet b bb bs gv) w wr ∧ (s.err = false → st.Step x s) ∧ (s.err = true → st.Step l s) ∧ wMu s q.length ≤ g ∧
    (s.err = false → slen st.size st.buf.length l.length = slen s.size s.buf.length q.length)

set_option maxRecDepth 100000 in
set_option maxHeartbeats 4000000 in
theorem writeString_ok (ea : Addr) (w : World) (b bb bs : Nat) (gv : Value) (st : Wr) (B : Nat) (t0 : ByteArray) (l : List UInt8) (h : WrAt ea w b bb bs gv st B) (hf : st.Fits) (he : st.err = false)
    (hp : t0.data.toList = l) (hl : st.snk.got.length + st.buf.length + l.length ≤ 140737488355328)
    (hes : w.cell? ⟨7, 0, none⟩ = some (esV ea)) (hgl : 7 < B) :
    Calls Tryd.prog 51 #[.pointer (some ⟨b, 0, none⟩), .string t0] w fun e w' => ∃ n s, e = .returned (.tuple #[.int .i64 (n : Nat), errW ea s.err]) ∧ (st.Wrote l n s ∧ (s.err = false → s.buf.length = slen st.size st.buf.length l.length)) ∧ WrOut ea w b bb bs gv s B w' := by
  have H0 : Hid (SInv ea w b bb bs gv st B l (wMu st l.length) (.string t0) .nilIface (.bool true) (.int .i64 0) w) :=
    ⟨[], l, t0, true, st, gv, rfl, rfl, rfl, hp, rfl, rfl, h, fun _ hi => .inl hi, Keep.refl _ _, fun _ => Wr.Step.refl hf.ok he, (fun e => by rw [he] at e; cases e), Nat.le_refl _, fun _ => rfl⟩
  have Hng : Hid (¬ wrSet b bb bs gv 7) := by
    intro e
    have h1 := h.le1; have h2 := h.le2; have h3 := h.sk.le
    rcases e with e | e | e | e
    · omega
    · omega
    · omega
    · have := (h.sk.own.lt _ e).1; omega
  have Hes := Lib.hid hes
  have Hf := Lib.hid hf
  have He := Lib.hid he
  clear h hf he hp hes
  have hasw := as_strw
  go_enter Tryd.func51, Tryd.ntmps51
  go_wp2_with fail
  go_loopg [1, 6, 7, 8, 9] (wMu st l.length) (fun g p sw tr nn n9 wr => SInv ea w b bb bs gv st B l g p sw tr nn wr)
  case atStart => exact H0.out
  case round =>
    obtain ⟨x, q, t, tb, s, gw, hlx, rfl, rfl, htq, rfl, rfl, hat, hgw, hkw, hst1, hst2, hmu, hwl⟩ := hrel
    have hlen : l.length = x.length + q.length := by rw [hlx]; simp
    have hts : t.size = q.length := by rw [Lib.size_eq, htq]
    cases hse : s.err with
    | true =>
      have hstep := hst2 hse
      have hso := hstep.ok
      have HP : Hid (st.Wrote l x.length s ∧ (s.err = false → s.buf.length = slen st.size st.buf.length l.length)) := by
        show _ ∧ _
        refine ⟨?_, fun e => by rw [hse] at e; cases e⟩
        unfold Wr.Wrote
        rw [He.out]
        exact ⟨by omega, (fun e => by rw [hse] at e; cases e), hstep⟩
      have Hat := Lib.hid hat
      have Hgw := Lib.hid hgw
      have Hse := Lib.hid hse
      have htl : t.size ≤ 140737488355328 := by omega
      clear hlx htq hat hgw hst1 hst2 hmu hstep hse hl hlen hwl hts
      by_cases hav : (t.size : Int) ≤ (s.size : Int) - s.buf.length
      all_goals
        go_wp2_with fail
        refine (available_any ea _ b bb bs gw s B Hat.out hso).mono ?_
        rintro e wa ⟨rfl, hwa, hna⟩
        have c0 : wa.cell? ⟨b, 0, none⟩ = some (.iface 97 (.pointer (some ea))) := cell_of hwa.wr (by simp [errW, Hse.out, esV])
        have Hwa := Lib.hid hwa
        have HKa := Lib.hid (hkw.then hna)
        clear hwa hna
        go_wp2_with fail
        go_quiet (fail)
        go_wp2
        go_ret2
        exact ⟨x.length, s, by rw [Hse.out]; rfl, HP.out, gw, Hwa.out.drewN _, Hgw.out, HKa.out.drewN _⟩
    | false =>
      have hstep := hst1 hse
      have hso := hstep.ok
      have hfs : s.Fits := Hf.out.step hstep (by omega)
      have hq16 : s.snk.got.length + s.buf.length + q.length ≤ 140737488355328 := by have := hstep.len; omega
      have hsz := hso.size
      have hbuf := hso.buf
      have Hwl := Lib.hid (hwl hse)
      have Hse := Lib.hid hse
      have Hat := Lib.hid hat
      have Hgw := Lib.hid hgw
      have Hstep := Lib.hid hstep
      have Htq := Lib.hid htq
      have Hlx := Lib.hid hlx
      have Hlen := Lib.hid hlen
      have Hts := Lib.hid hts
      have htl : t.size ≤ 140737488355328 := by omega
      clear hlx htq hat hgw hst1 hst2 hstep hse hlen hwl
      by_cases hav : (t.size : Int) ≤ (s.size : Int) - s.buf.length
      · clear hts
        go_wp2_with fail
        refine (available_any ea _ b bb bs gw s B Hat.out hso).mono ?_
        rintro e wa ⟨rfl, hwa, hna⟩
        have hka := hkw.then hna
        obtain ⟨n1, n2, n3, g1, g2, l1, l2, hwr, ⟨cs, hbf, hcl, hct⟩, hsk⟩ := id hwa
        have c0 : wa.cell? ⟨b, 0, none⟩ = some .nilIface := cell_of hwr (by simp [errW, Hse.out])
        have c1 : wa.cell? ⟨b, 1, none⟩ = some (.slice (some ⟨bb, 0, none⟩) s.size s.size) := cell_of hwr rfl
        have c2 : wa.cell? ⟨b, 2, none⟩ = some (.int .i64 s.buf.length) := cell_of hwr rfl
        obtain ⟨av, hsl, hav1, _⟩ := slice_from (P := Tryd.prog) 27 5 Tryd.underlying27 sizeByte (some ⟨bb, 0, none⟩) s.size s.size s.buf.length hbuf (Nat.le_refl _) .i64
        have hql : (bytesV q).length = t.size := by rw [bytesV_length, Hts.out]
        have Hql := Lib.hid hql
        have Hcs : Hid (bytesV q = (bytesV t.data.toList).take (Nat.min t.size (s.size - s.buf.length))) := by
          show _ = _
          rw [Htq.out, show Nat.min t.size (s.size - s.buf.length) = t.size from Nat.min_eq_left (by omega), ← hql, List.take_length]
        have Hd : Hid (0 < (bytesV q).length → av = some ⟨bb, s.buf.length, none⟩) := fun h0 => by rw [hql] at h0; rw [hav1 (by omega)]; exact congrArg some (addr0_add _ _)
        have Hroom : Hid (s.buf.length + (bytesV q).length ≤ cs.length) := by show _ ≤ _; rw [hql, hcl]; omega
        have HS2 := Lib.hid (fun (w' : World) (hk : Keep (fun i => i = bb) wa.drew w') =>
          (show w'.cell? ⟨b, 1, none⟩ = some (.slice (some ⟨bb, 0, none⟩) s.size s.size) ∧ w'.cell? ⟨b, 2, none⟩ = some (.int .i64 s.buf.length) from ⟨hk.cellAt c1 n1, hk.cellAt c2 n1⟩))
        have Hwr := Lib.hid hwr
        have Hbf := Lib.hid hbf
        have Hct := Lib.hid hct
        have Hcl := Lib.hid hcl
        have Hsk := Lib.hid hsk
        have HKa := Lib.hid hka
        clear hwa hna hka hwr hbf hct hcl hsk hav1 hql
        go_wp2_with fail
        go_region_held3 (fun w' => w'.cell? ⟨b, 1, none⟩ = some (.slice (some ⟨bb, 0, none⟩) s.size s.size) ∧ w'.cell? ⟨b, 2, none⟩ = some (.int .i64 s.buf.length))
          (first | exact ⟨c1, c2⟩ | exact HS2.out _ hkc)
          (first | (refine step_copy_str rfl _ _ 27 9 (by rfl) 5 Tryd.underlying27 sizeByte av (s.size - s.buf.length) (s.size - s.buf.length) t (by rfl) (by rfl) bb s.buf.length cs 5 Hbf.out (bytesV q) t.size Hql.out Hcs.out Hd.out Hroom.out ?_; intro w3 hb3 hkc))
        rename_i hh2
        have Hwr3 := Lib.hid ((hkc.block b (Array.getElem?_eq_some_iff.1 Hwr.out).1 n1).trans Hwr.out)
        have q2 : w3.cell? ⟨b, 2, none⟩ = some (.int .i64 s.buf.length) := cell_of Hwr3.out rfl
        have f23 : w3.frozen? ⟨b, 2, none⟩ = false := frozen_of Hwr3.out
        have HKC := Lib.hid (Keep.ofDrew hkc)
        have Hb3 := Lib.hid hb3
        clear hh2 HS2 hsl hkc hb3 c0 c1 c2
        have hx16 : x.length + t.size ≤ 140737488355328 := by have := Hlen.out; have := Hts.out; omega
        go_wp2
        go_ret2
        have kk : Keep (wrSet b bb bs gv) w w3 := HKa.out.trans HKC.out (fun i _ e => .inr (.inl e))
        have hts := Hts.out
        refine ⟨l.length, { s with buf := s.buf ++ q }, ?_, ?_, wrOut_of (cs := splice cs s.buf.length (bytesV q)) n1 n2 n3 l1 l2 g1 g2 Hgw.out ((heap_set Hwr3.out _).trans ?_) ?_ ?_ ?_ ?_ (kk.setW _ _)⟩
        · rw [Hlen.out, ← hts]; simp [errW, Hse.out]
        · refine ⟨?_, fun _ => by rw [Hwl.out, slen_fit (by omega)]; simp⟩
          unfold Wr.Wrote
          rw [He.out]
          refine ⟨Nat.le_refl _, fun _ => rfl, ?_⟩
          rw [Hlx.out]
          exact Hstep.out.trans Hse.out (Wr.fill_step hso Hse.out q (by unfold Wr.avail; omega))
        · simp [hts]
        · rw [Below.heap_setCell _ _ _ _ (fun e => n1 e.symm)]; exact Hb3.out.out
        · rw [length_splice _ _ _ Hroom.out]; exact Hcl.out
        · show (splice cs s.buf.length (bytesV q)).take (s.buf ++ q).length = bytesV (s.buf ++ q)
          rw [bytesV_append, ← Hct.out, List.length_append, ← hts, ← Hql.out]
          exact take_splice Hroom.out
        · exact (Hsk.out.keep HKC.out (fun e => n3 e.symm) (fun i hi e => g2 (e ▸ hi))).keep ((Keep.refl _ _).set1 _ _) (fun e => n2 e.symm) (fun i hi e => g1 (e ▸ hi))
      · obtain ⟨v, hv⟩ : ∃ v, v = s.size - s.buf.length := ⟨_, rfl⟩
        have hvlt : v < t.size := by omega
        have hvq : v ≤ t.size := by omega
        have hvq2 : v ≤ q.length := by omega
        have hvb : v + s.buf.length = s.size := by omega
        obtain ⟨av, hsl, hav1, _⟩ := slice_from (P := Tryd.prog) 27 5 Tryd.underlying27 sizeByte (some ⟨bb, 0, none⟩) s.size s.size s.buf.length hbuf (Nat.le_refl _) .i64
        rw [← hv] at hsl
        have Hv := Lib.hid hv
        have Hvb := Lib.hid hvb
        have Hmu := Lib.hid hmu
        clear hmu hvb hts
        have hbe : s.buf.length = 0 ∨ (0 < s.buf.length ∧ ((s.buf.length : Int) == 0) = false) := by
          by_cases h : s.buf.length = 0
          · exact .inl h
          · right; exact ⟨by omega, beq_eq_false_iff_ne.2 (by omega)⟩
        have Hbe := Lib.hid hbe
        clear hbe
        go_wp2_with fail
        refine (available_any ea _ b bb bs gw s B Hat.out hso).mono ?_
        rintro e wa ⟨rfl, hwa, hna⟩
        have hka := hkw.then hna
        obtain ⟨n1, n2, n3, g1, g2, l1, l2, hwr, ⟨cs, hbf, hcl, hct⟩, hsk⟩ := id hwa
        have c0 : wa.cell? ⟨b, 0, none⟩ = some .nilIface := cell_of hwr (by simp [errW, Hse.out])
        have c1 : wa.cell? ⟨b, 1, none⟩ = some (.slice (some ⟨bb, 0, none⟩) s.size s.size) := cell_of hwr rfl
        have c2 : wa.cell? ⟨b, 2, none⟩ = some (.int .i64 s.buf.length) := cell_of hwr rfl
        have c3 : wa.cell? ⟨b, 3, none⟩ = some (.iface 62 (.pointer (some ⟨bs, 0, none⟩))) := cell_of hwr rfl
        have hql : (bytesV (q.take v)).length = v := by rw [bytesV_length]; simp; omega
        have Hql := Lib.hid hql
        have Hcs : Hid (bytesV (q.take v) = (bytesV t.data.toList).take (Nat.min t.size v)) := by
          show _ = _
          rw [Htq.out, show Nat.min t.size v = v from Nat.min_eq_right hvq]
          simp [bytesV]
        have Hd : Hid (0 < (bytesV (q.take v)).length → av = some ⟨bb, s.buf.length, none⟩) := fun h0 => by rw [hql] at h0; rw [hav1 (by omega)]; exact congrArg some (addr0_add _ _)
        have Hroom : Hid (s.buf.length + (bytesV (q.take v)).length ≤ cs.length) := by show _ ≤ _; rw [hql, hcl]; omega
        have HS2 := Lib.hid (fun (w' : World) (hk : Keep (fun i => i = bb) wa.drew w') =>
          (show w'.cell? ⟨b, 1, none⟩ = some (.slice (some ⟨bb, 0, none⟩) s.size s.size) ∧ w'.cell? ⟨b, 2, none⟩ = some (.int .i64 s.buf.length) from ⟨hk.cellAt c1 n1, hk.cellAt c2 n1⟩))
        have Hwa := Lib.hid hwa
        have Hwr := Lib.hid hwr
        have Hbf := Lib.hid hbf
        have Hct := Lib.hid hct
        have Hcl := Lib.hid hcl
        have Hsk := Lib.hid hsk
        have HKa := Lib.hid hka
        clear hwa hna hka hwr hbf hct hcl hsk hav1 hql hv
        rcases Hbe.out with hb | ⟨hb, hbz⟩
        · have Hb := Lib.hid hb
          cases tb
          all_goals
            go_wp2_with fail
            refine (bufferedW_any ea _ b bb bs gw s B Hwa.out).mono ?_
            rintro e wb ⟨rfl, rfl⟩
            rw [Hb.out]
            go_wp2_with fail
            refine (bufferedW_any ea _ b bb bs gw s B Hwa.out).mono ?_
            rintro e wb ⟨rfl, rfl⟩
            rw [Hb.out]
            clear hb
            go_wp2_with fail
            go_region_held3 (fun w' => w'.cell? ⟨b, 1, none⟩ = some (.slice (some ⟨bb, 0, none⟩) s.size s.size) ∧ w'.cell? ⟨b, 2, none⟩ = some (.int .i64 s.buf.length))
              (first | exact ⟨c1, c2⟩ | exact HS2.out _ hkc)
              (first | (refine step_copy_str rfl _ _ 27 9 (by rfl) 5 Tryd.underlying27 sizeByte av v v t (by rfl) (by rfl) bb s.buf.length cs 5 Hbf.out (bytesV (q.take v)) v Hql.out Hcs.out Hd.out Hroom.out ?_; intro w3 hb3 hkc))
            rename_i hh2
            have Hwr3 := Lib.hid ((hkc.block b (Array.getElem?_eq_some_iff.1 Hwr.out).1 n1).trans Hwr.out)
            have q2 : w3.cell? ⟨b, 2, none⟩ = some (.int .i64 s.buf.length) := cell_of Hwr3.out rfl
            have f23 : w3.frozen? ⟨b, 2, none⟩ = false := frozen_of Hwr3.out
            have HKC := Lib.hid (Keep.ofDrew hkc)
            have Hb3 := Lib.hid hb3
            clear hh2 HS2 hsl hkc hb3 c0 c1 c2 c3
            have hx16 : x.length + t.size ≤ 140737488355328 := by have := Hlen.out; have := Hts.out; omega
            go_wp2_with fail
            have hat4 : WrAt ea (w3.setCell ⟨b, 2, none⟩ (.int .i64 ((s.buf.length : Int) + v))) b bb bs gw { s with buf := s.buf ++ q.take v } B := by
              refine ⟨n1, n2, n3, g1, g2, l1, l2, (heap_set Hwr3.out _).trans ?_, ⟨splice cs s.buf.length (bytesV (q.take v)), ?_, ?_, ?_⟩, ?_⟩
              · simp; omega
              · rw [Below.heap_setCell _ _ _ _ (fun e => n1 e.symm)]; exact Hb3.out.out
              · rw [length_splice _ _ _ Hroom.out]; exact Hcl.out
              · show (splice cs s.buf.length (bytesV (q.take v))).take (s.buf ++ q.take v).length = bytesV (s.buf ++ q.take v)
                rw [bytesV_append, ← Hct.out, List.length_append, ← bytesV_length (q.take v)]
                exact take_splice Hroom.out
              · exact (Hsk.out.keep HKC.out (fun e => n3 e.symm) (fun i hi e => g2 (e ▸ hi))).keep ((Keep.refl _ _).set1 _ _) (fun e => n2 e.symm) (fun i hi e => g1 (e ▸ hi))
            have hstep4 : s.Step (q.take v) { s with buf := s.buf ++ q.take v } := Wr.fill_step hso Hse.out (q.take v) (by unfold Wr.avail; have := Hv.out; simp; omega)
            have hfits4 : Wr.Fits { s with buf := s.buf ++ q.take v } := hfs.step hstep4 (by simp; omega)
            have hk4 : Keep (wrSet b bb bs gv) w (w3.setCell ⟨b, 2, none⟩ (.int .i64 ((s.buf.length : Int) + v))) := (HKa.out.trans HKC.out (fun i _ e => .inr (.inl e))).setW _ _
            refine (flush_any ea _ b bb bs gw _ B hat4 hfits4 (hk4.cellAt Hes.out Hng.out) hgl).mono ?_
            rintro e w5 ⟨rfl, g5, hat5, hg5, hk5⟩
            obtain ⟨s5, hs5⟩ : ∃ s5, s5 = ({ s with buf := s.buf ++ q.take v } : Wr).flush := ⟨_, rfl⟩
            rw [← hs5] at hat5 ⊢
            have hfl := Wr.flush_step (a := { s with buf := s.buf ++ q.take v }) hstep4.ok Hse.out
            rw [← hs5] at hfl
            have Hat5 := Lib.hid hat5
            have hwsz := hk4.size
            have Hg5 : Hid (∀ i, g5.ownBlock = some i → gv.ownBlock = some i ∨ w.heap.size ≤ i) := fun i hi => by
              rcases hg5 i hi with h | h
              · exact Hgw.out i h
              · right; omega
            have HK5 : Hid (Keep (wrSet b bb bs gv) w w5) := hk4.trans hk5 (fun i hi e => by
              rcases e with e | e | e | e
              · exact .inl e
              · exact .inr (.inl e)
              · exact .inr (.inr (.inl e))
              · rcases Hgw.out i e with h | h
                · exact .inr (.inr (.inr h))
                · omega)
            have Hstep5 : Hid (st.Step (x ++ q.take v) s5) := by
              show st.Step _ _
              have h1 := Hstep.out.trans Hse.out hstep4
              have h2 := h1.trans Hse.out hfl.1
              simpa using h2
            have Hbuf5 := Lib.hid hfl.2
            clear hfl hs5 hat5 hg5 hk5 hat4 hstep4 hfits4 hk4 hwsz q2 f23
            go_wp2
            go_roundg (wMu s5 (q.length - v))
            case measure =>
              have h1 := Hmu.out
              have h2 := Hts.out
              have h3 := Hvb.out
              unfold wMu at h1 ⊢
              rw [Hse.out] at h1
              cases he5 : s5.err with
              | true => simp at h1 ⊢; split <;> omega
              | false =>
                simp [Hbuf5.out he5] at h1 ⊢
                by_cases hz : s.buf = []
                · rw [hz] at h3; simp at h3; simp [hz] at h1; omega
                · simp [hz] at h1; omega
            case rel =>
              refine ⟨x ++ q.take v, q.drop v, t.extract v t.size, _, s5, g5, by rw [Hlx.out]; simp, by simp; omega, rfl, ?_, rfl, rfl, Hat5.out, Hg5.out, HK5.out, fun _ => Hstep5.out, fun e => ?_, by simp, fun e => ?_⟩
              · rw [ext_end, Htq.out]
              · have h3 := Hstep5.out.more e (q.drop v)
                rw [Hlx.out]
                simpa using h3
              · have h4 := Hstep5.out.size
                have h5 := Hstep.out.size
                have h6 := Hvb.out
                have h9 := Hts.out
                have h8 : (q.drop v).length = q.length - (s.size - s.buf.length) := by rw [List.length_drop]; omega
                rw [Hwl.out, Hbuf5.out e, h8, show s5.size = s.size by omega]
                exact slen_fill (by omega) (by omega)
        · go_wp2_with fail
          refine (bufferedW_any ea _ b bb bs gw s B Hwa.out).mono ?_
          rintro e wb ⟨rfl, rfl⟩
          go_wp2_with fail
          refine (bufferedW_any ea _ b bb bs gw s B Hwa.out).mono ?_
          rintro e wb ⟨rfl, rfl⟩
          go_wp2_with fail
          go_region_held3 (fun w' => w'.cell? ⟨b, 1, none⟩ = some (.slice (some ⟨bb, 0, none⟩) s.size s.size) ∧ w'.cell? ⟨b, 2, none⟩ = some (.int .i64 s.buf.length))
            (first | exact ⟨c1, c2⟩ | exact HS2.out _ hkc)
            (first | (refine step_copy_str rfl _ _ 27 9 (by rfl) 5 Tryd.underlying27 sizeByte av v v t (by rfl) (by rfl) bb s.buf.length cs 5 Hbf.out (bytesV (q.take v)) v Hql.out Hcs.out Hd.out Hroom.out ?_; intro w3 hb3 hkc))
          rename_i hh2
          have Hwr3 := Lib.hid ((hkc.block b (Array.getElem?_eq_some_iff.1 Hwr.out).1 n1).trans Hwr.out)
          have q2 : w3.cell? ⟨b, 2, none⟩ = some (.int .i64 s.buf.length) := cell_of Hwr3.out rfl
          have f23 : w3.frozen? ⟨b, 2, none⟩ = false := frozen_of Hwr3.out
          have HKC := Lib.hid (Keep.ofDrew hkc)
          have Hb3 := Lib.hid hb3
          clear hh2 HS2 hsl hkc hb3 c0 c1 c2 c3
          have hx16 : x.length + t.size ≤ 140737488355328 := by have := Hlen.out; have := Hts.out; omega
          go_wp2_with fail
          have hat4 : WrAt ea (w3.setCell ⟨b, 2, none⟩ (.int .i64 ((s.buf.length : Int) + v))) b bb bs gw { s with buf := s.buf ++ q.take v } B := by
            refine ⟨n1, n2, n3, g1, g2, l1, l2, (heap_set Hwr3.out _).trans ?_, ⟨splice cs s.buf.length (bytesV (q.take v)), ?_, ?_, ?_⟩, ?_⟩
            · simp; omega
            · rw [Below.heap_setCell _ _ _ _ (fun e => n1 e.symm)]; exact Hb3.out.out
            · rw [length_splice _ _ _ Hroom.out]; exact Hcl.out
            · show (splice cs s.buf.length (bytesV (q.take v))).take (s.buf ++ q.take v).length = bytesV (s.buf ++ q.take v)
              rw [bytesV_append, ← Hct.out, List.length_append, ← bytesV_length (q.take v)]
              exact take_splice Hroom.out
            · exact (Hsk.out.keep HKC.out (fun e => n3 e.symm) (fun i hi e => g2 (e ▸ hi))).keep ((Keep.refl _ _).set1 _ _) (fun e => n2 e.symm) (fun i hi e => g1 (e ▸ hi))
          have hstep4 : s.Step (q.take v) { s with buf := s.buf ++ q.take v } := Wr.fill_step hso Hse.out (q.take v) (by unfold Wr.avail; have := Hv.out; simp; omega)
          have hfits4 : Wr.Fits { s with buf := s.buf ++ q.take v } := hfs.step hstep4 (by simp; omega)
          have hk4 : Keep (wrSet b bb bs gv) w (w3.setCell ⟨b, 2, none⟩ (.int .i64 ((s.buf.length : Int) + v))) := (HKa.out.trans HKC.out (fun i _ e => .inr (.inl e))).setW _ _
          refine (flush_any ea _ b bb bs gw _ B hat4 hfits4 (hk4.cellAt Hes.out Hng.out) hgl).mono ?_
          rintro e w5 ⟨rfl, g5, hat5, hg5, hk5⟩
          obtain ⟨s5, hs5⟩ : ∃ s5, s5 = ({ s with buf := s.buf ++ q.take v } : Wr).flush := ⟨_, rfl⟩
          rw [← hs5] at hat5 ⊢
          have hfl := Wr.flush_step (a := { s with buf := s.buf ++ q.take v }) hstep4.ok Hse.out
          rw [← hs5] at hfl
          have Hat5 := Lib.hid hat5
          have hwsz := hk4.size
          have Hg5 : Hid (∀ i, g5.ownBlock = some i → gv.ownBlock = some i ∨ w.heap.size ≤ i) := fun i hi => by
            rcases hg5 i hi with h | h
            · exact Hgw.out i h
            · right; omega
          have HK5 : Hid (Keep (wrSet b bb bs gv) w w5) := hk4.trans hk5 (fun i hi e => by
            rcases e with e | e | e | e
            · exact .inl e
            · exact .inr (.inl e)
            · exact .inr (.inr (.inl e))
            · rcases Hgw.out i e with h | h
              · exact .inr (.inr (.inr h))
              · omega)
          have Hstep5 : Hid (st.Step (x ++ q.take v) s5) := by
            show st.Step _ _
            have h1 := Hstep.out.trans Hse.out hstep4
            have h2 := h1.trans Hse.out hfl.1
            simpa using h2
          have Hbuf5 := Lib.hid hfl.2
          clear hfl hs5 hat5 hg5 hk5 hat4 hstep4 hfits4 hk4 hwsz q2 f23
          go_wp2
          go_roundg (wMu s5 (q.length - v))
          case measure =>
            have h1 := Hmu.out
            have h2 := Hts.out
            have h3 := Hvb.out
            unfold wMu at h1 ⊢
            rw [Hse.out] at h1
            cases he5 : s5.err with
            | true => simp at h1 ⊢; split <;> omega
            | false =>
              simp [Hbuf5.out he5] at h1 ⊢
              by_cases hz : s.buf = []
              · rw [hz] at h3; simp at h3; simp [hz] at h1; omega
              · simp [hz] at h1; omega
          case rel =>
            refine ⟨x ++ q.take v, q.drop v, t.extract v t.size, _, s5, g5, by rw [Hlx.out]; simp, by simp; omega, rfl, ?_, rfl, rfl, Hat5.out, Hg5.out, HK5.out, fun _ => Hstep5.out, fun e => ?_, by simp, fun e => ?_⟩
            · rw [ext_end, Htq.out]
            · have h3 := Hstep5.out.more e (q.drop v)
              rw [Hlx.out]
              simpa using h3
            · have h4 := Hstep5.out.size
              have h5 := Hstep.out.size
              have h6 := Hvb.out
              have h9 := Hts.out
              have h8 : (q.drop v).length = q.length - (s.size - s.buf.length) := by rw [List.length_drop]; omega
              rw [Hwl.out, Hbuf5.out e, h8, show s5.size = s.size by omega]
              exact slen_fill (by omega) (by omega)
end Go.Proofs.YtjihbkmbbcdnfaaDoor
