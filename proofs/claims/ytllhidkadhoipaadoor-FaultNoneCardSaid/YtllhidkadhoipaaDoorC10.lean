/- Each operation of the model does what its abstract one does: places, numbers, texts. For every program whose types are as told. -/
import Derived.Test.YtllhidkadhoipaaDoorC9
import Derived.Laws.Slices
import Derived.Laws.Strings
import Derived.Laws.Strings2
import Derived.Laws.Strings3
import Derived.Laws.DeepStrings4
namespace Go.Proofs.YtllhidkadhoipaaDoor.Ab
open Go Go.RowKit

section
variable {P : Program} {Γ : FuncId → List D → D → Prop} {E : Env} {G : Gh} {L L' : Mem} {a : Act} {w : World} {rs ws : List Loc} {lay : Lay} {o : Oper}

theorem fieldOff_ok (hlay : LayOK P lay) {s : TypeId} {f n : Nat} (h : fieldOff lay s f = some n) (p : Addr) (w : World) : (Instr.fieldAt s (.pointer (some p)) f).run P w = .ok (.pointer (some (p.add n))) w := by
  unfold fieldOff at h
  split at h
  · rename_i i hi
    split at h
    · rename_i fs hd
      split at h
      · rename_i fd hf
        split at h
        · rename_i j hj
          have hu := hlay.und s i hi
          rw [hd] at hu
          cases hz : Nat.beq j.sz 0 with
          | true => rw [hz] at h; cases h
          | false =>
            rw [hz] at h
            cases h
            have h0 : j.sz ≠ 0 := fun e => by rw [e] at hz; cases hz
            simp [Instr.fieldAt, run_underlying hu, hf, Instr.sureAddr, fieldPlace, run_sizeOf_lay hlay hj, h0]
        · cases h
      · cases h
    · cases h
  · cases h

theorem dv_ptr {id g off n0 : Nat} (ho : L (.obj id) = some (.box g n0)) : DV G L w (.ptr id g off) (.pointer (some ⟨G.blk id, off, none⟩)) :=
  ⟨[_], ⟨_, rfl, rfl, .box g n0, ho, Nat.le_refl _, fun _ => rfl⟩, rfl, rfl⟩

theorem op_fieldAddr (hlay : LayOK P lay) {s : TypeId} {x : Operand} {f : Nat} (ho : o.op = .fieldAddr s x f) (h : Run Γ (opPr lay o) L L' rs ws) (ha : Abs E G L a w) (hn : ∀ n, o.dst = some n → n < E.N) : OpOK P E L' o a w := by
  intro K Q hK
  simp only [opPr, ho] at h
  obtain ⟨d, rs1, h1, hd⟩ := evO_ok h ha
  cases hf : fieldOff lay s f with
  | none => rw [hf] at h1; cases h1
  | some n =>
    rw [hf] at h1
    simp only at h1
    have fin : ∀ {p : Addr}, a.eval x = .pointer (some p) → Abs E G L' (a.put o.dst (.pointer (some (p.add n)))) w → o.wp P a w K Q := by
      intro p hp h2
      refine wp_value (w' := w) ?_ (hK _ _ _ h2)
      simp [execOp, ho, hp, fieldOff_ok hlay hf]
    split at h1
    · rename_i id g off
      have hd1 := DV_one rfl hd (by simp) (by simp) (by simp)
      cases h1 with
      | rd h1 =>
        revert h1
        dsimp only
        split
        · rename_i g' n0 hl
          intro h1
          cases h1 with
          | gd hb h1 =>
            have := beq_nat hb
            subst this
            refine fin (ptr_at hd1 hl) (putD_ok h1 ha hn ?_)
            rw [add_none]
            exact dv_ptr hl
        · intro h1; cases h1
    · rename_i id g i off
      obtain ⟨_, c, hc, hge, hpp⟩ := DV_one rfl hd (by simp) (by simp) (by simp)
      cases h1 with
      | rd h1 =>
        revert h1
        dsimp only
        split
        · rename_i g' e τ xs hl
          intro h1
          cases h1 with
          | gd hb h1 =>
            have := beq_nat hb
            subst this
            rw [hc] at hl
            cases hl
            obtain ⟨hi, b, cap, hv, hp⟩ := hpp rfl
            refine fin hp (putD_ok h1 ha hn ?_)
            rw [add_none, Nat.add_assoc]
            exact ⟨[_], ⟨_, rfl, rfl, _, hc, Nat.le_refl _, fun _ => ⟨hi, b, cap, hv, rfl⟩⟩, rfl, rfl⟩
        · rename_i g' τ xs hl
          intro h1
          cases h1 with
          | gd hb h1 =>
            have := beq_nat hb
            subst this
            rw [hc] at hl
            cases hl
            obtain ⟨hi, b, cap, hv, hp⟩ := hpp rfl
            refine fin hp (putD_ok h1 ha hn ?_)
            rw [add_none, Nat.add_assoc]
            exact ⟨[_], ⟨_, rfl, rfl, _, hc, Nat.le_refl _, fun _ => ⟨hi, b, cap, hv, rfl⟩⟩, rfl, rfl⟩
        · intro h1; cases h1
    · rename_i τ y off
      obtain ⟨p, ds, hv, hr, hc⟩ := DV_one rfl hd (by simp) (by simp) (by simp)
      refine fin hv (putD_ok h1 ha hn ?_)
      rw [add_add]
      exact ⟨[_], ⟨_, rfl, p, ds, rfl, hr, hc⟩, rfl, rfl⟩
    · cases h1

theorem sliceElem_ok (hlay : LayOK P lay) {t e : TypeId} {j : LInfo} (h : sliceElem lay t = some (e, j)) : lay e = some j ∧ P.underlying t = some (.slice e) := by
  unfold sliceElem at h
  split at h
  · rename_i i hi
    split at h
    · rename_i e' hde
      split at h
      · rename_i j' hj'
        cases h
        exact ⟨hj', by rw [← hde]; exact hlay.und t i hi⟩
      · cases h
    · cases h
  · cases h

theorem inB_ok {n : Int} {len : Nat} (h : inB n len = true) : 0 ≤ n ∧ n < (len : Int) := by simpa [inB] using h

theorem run_indexAt_lay (hlay : LayOK P lay) {t e : TypeId} {j : LInfo} (h : sliceElem lay t = some (e, j)) {p : Addr} {len cap : Nat} {k : IntKind} {n : Int} (hn : 0 ≤ n ∧ n < (len : Int)) (w : World) :
    (Instr.indexAt t (.slice (some p) len cap) (.int k n)).run P w = .ok (.pointer (some (p.add (n.toNat * j.sz)))) w := by
  obtain ⟨h1, h2⟩ := sliceElem_ok hlay h
  simp [Instr.indexAt, run_underlying h2, asIntOf, hn, run_sizeOf_lay hlay h1]

/-- A thing of a slice that is sealed. -/
theorem slRep_at {τ : Ty} {xs : List τ.I} {v : Value} (h : SlRep G.S w (RepC G.S w τ) xs v) {n : Nat} (hn : n < xs.length) :
    ∃ p cap, v = .slice (some p) xs.length cap ∧ DV G L w (.sptr τ (xs.getD n τ.dflt) 0) (.pointer (some (p.add (n * τ.sz)))) := by
  rcases h with ⟨_, rfl⟩ | ⟨p, cap, cs, rfl, hc, hl, hr⟩
  · simp at hn
  · refine ⟨p, cap, rfl, ?_⟩
    obtain ⟨ds, h1, h2⟩ := RepL.get (fun _ _ h => RepC.length h) n (xs.getD n τ.dflt) hl (by simp [List.getD, List.getElem?_eq_getElem hn])
    refine ⟨[_], ⟨_, rfl, p.add (n * τ.sz), ds, by rw [add_add, Nat.add_zero], h1, fun j u hj => ?_⟩, rfl, rfl⟩
    have hjl : j < τ.sz := by rw [← RepC.length h1]; exact (List.getElem?_eq_some_iff.1 hj).1
    have := hr (n * τ.sz + j) u (by rw [h2 j hjl]; exact hj)
    rw [add_add, add_block]
    exact this

theorem op_indexAddr (hlay : LayOK P lay) {t : TypeId} {x i : Operand} (ho : o.op = .indexAddr t x i) (hne : sliceElem lay t ≠ none) (h : Run Γ (opPr lay o) L L' rs ws) (ha : Abs E G L a w) (hn : ∀ n, o.dst = some n → n < E.N) : OpOK P E L' o a w := by
  intro K Q hK
  simp only [opPr, ho] at h
  obtain ⟨d, rs1, h1, hd⟩ := evO_ok h ha
  obtain ⟨di, rs2, h2, hdi⟩ := evO_ok h1 ha
  split at h2
  · rename_i k n
    have hiv := DV_int hdi
    cases hse : sliceElem lay t with
    | none => exact absurd hse hne
    | some ej =>
      obtain ⟨e, j⟩ := ej
      rw [hse] at h2
      simp only at h2
      have fin : ∀ {p : Addr} {len cap : Nat}, a.eval x = .slice (some p) len cap → (0 ≤ n ∧ n < (len : Int)) → Abs E G L' (a.put o.dst (.pointer (some (p.add (n.toNat * j.sz))))) w → o.wp P a w K Q := by
        intro p len cap hp hb h3
        refine wp_value (w' := w) ?_ (hK _ _ _ h3)
        simp only [execOp, ho, hp, hiv, Sem.run_bind, run_indexAt_lay hlay hse hb w, Result.andThen_ok]
        rfl
      split at h2
      · rename_i τ xs
        cases h2 with
        | gd hb h2 =>
          simp only [Bool.and_eq_true] at hb
          obtain ⟨hsz, hin⟩ := hb
          have hsz := beq_nat hsz
          have hin := inB_ok hin
          obtain ⟨p, cap, hv, hdv⟩ := slRep_at (L := L) (DV_slice hd) (n := n.toNat) (by omega)
          rw [hsz] at hdv
          exact fin hv hin (putD_ok h2 ha hn hdv)
      · rename_i id g
        obtain ⟨hone, c, hc, hge, hpp⟩ := DV_one rfl hd (by simp) (by simp) (by simp)
        cases h2 with
        | rd h2 =>
          revert h2
          dsimp only
          split
          · rename_i g' e' τ xs hl
            intro h2
            cases h2 with
            | gd hb h2 =>
              simp only [Bool.and_eq_true] at hb
              obtain ⟨⟨hg, hsz⟩, hin⟩ := hb
              have hg := beq_nat hg
              have hsz := beq_nat hsz
              have hin := inB_ok hin
              subst hg
              rw [hc] at hl
              cases hl
              have hv : a.eval x = G.vv id := hpp rfl
              obtain ⟨cs, hown, hrl⟩ := ha.heap.vec id g e' τ xs hc
              rcases hown.2 with ⟨_, h0⟩ | ⟨b, cap, cur, h0, _⟩
              · omega
              · refine fin (hv.trans h0) hin (putD_ok h2 ha hn ?_)
                rw [add_none, ← hsz, Nat.zero_add]
                exact ⟨[_], ⟨_, rfl, rfl, _, hc, Nat.le_refl _, fun _ => ⟨by omega, b, cap, h0, by simp⟩⟩, rfl, rfl⟩
          · rename_i g' τ xs hl
            intro h2
            cases h2 with
            | gd hb h2 =>
              simp only [Bool.and_eq_true] at hb
              obtain ⟨⟨hg, hsz⟩, hin⟩ := hb
              have hg := beq_nat hg
              have hsz := beq_nat hsz
              have hin := inB_ok hin
              subst hg
              rw [hc] at hl
              cases hl
              have hv : a.eval x = G.vv id := hpp rfl
              obtain ⟨p, cap, hv2, hdv⟩ := slRep_at (L := L) (ha.heap.sl id g τ xs hc) (n := n.toNat) (by omega)
              rw [hsz] at hdv
              exact fin (hv.trans hv2) hin (putD_ok h2 ha hn hdv)
          · intro h2; cases h2
      · cases h2
  · cases h2

theorem str_size (s : List UInt8) : (⟨s.toArray⟩ : ByteArray).size = s.length := rfl

theorem op_index (hlay : LayOK P lay) {t : TypeId} {x i : Operand} (ho : o.op = .index t x i) (h : Run Γ (opPr lay o) L L' rs ws) (ha : Abs E G L a w) (hn : ∀ n, o.dst = some n → n < E.N) : OpOK P E L' o a w := by
  intro K Q hK
  simp only [opPr, ho] at h
  obtain ⟨d, rs1, h1, hd⟩ := evO_ok h ha
  obtain ⟨di, rs2, h2, hdi⟩ := evO_ok h1 ha
  split at h2
  · rename_i k n
    have hiv := DV_int hdi
    cases hi : lay t with
    | none => rw [hi] at h2; cases h2
    | some li =>
      rw [hi] at h2
      simp only at h2
      have hu := hlay.und t li hi
      split at h2
      · rename_i hdesc
        rw [hdesc] at hu
        split at h2
        case h_2 => cases h2
        rename_i s
        cases h2 with
        | gd hb h2 =>
          have hin := inB_ok hb
          have hv := DV_str hd
          have hlt : n.toNat < s.length := by omega
          refine wp_value (w' := w) ?_ (hK _ _ _ (putD_ok h2 ha hn (dv_int _ _)))
          have hg : (⟨s.toArray⟩ : ByteArray)[n.toNat]? = some (s.getD n.toNat 0) := by
            show (if h : n.toNat < (⟨s.toArray⟩ : ByteArray).size then some ((⟨s.toArray⟩ : ByteArray)[n.toNat]) else none) = _
            rw [dif_pos (by rw [str_size]; exact hlt)]
            simp [List.getD, List.getElem?_eq_getElem hlt]
            rfl
          simp [execOp, ho, hv, hiv, Instr.index, asIntOf, run_underlying hu, hin.1, hg]
      · rename_i m e hdesc
        rw [hdesc] at hu
        cases hj : lay e with
        | none => rw [hj] at h2; cases h2
        | some j =>
          rw [hj] at h2
          simp only at h2
          cases hty : j.ty with
          | none => rw [hty] at h2; cases h2
          | some τ =>
            rw [hty] at h2
            simp only at h2
            cases hx : d.asTy (.arr m τ) with
            | none => rw [hx] at h2; cases h2
            | some xs =>
              rw [hx] at h2
              cases h2 with
              | gd hb h2 =>
                simp only [Bool.and_eq_true, beq_iff_eq] at hb
                obtain ⟨⟨hin, hsz⟩, hagg⟩ := hb
                have hin := inB_ok hin
                have hsz := beq_nat hsz
                obtain ⟨hlen, hrl⟩ := asTy_okV hx hd
                have hlt : n.toNat < xs.length := by omega
                obtain ⟨ds, k1, k2⟩ := RepL.get (fun _ _ h => RepC.length h) n.toNat (xs.getD n.toNat τ.dflt) hrl (by simp [List.getD, List.getElem?_eq_getElem hlt])
                have hdl := RepC.length k1
                -- the array's own form
                have hv : ∃ cs : Array Value, a.eval x = .agg cs := by
                  cases d with
                  | val τ' y =>
                    obtain ⟨cs, _, h4⟩ := hd
                    simp only [D.asTy] at hx
                    split at hx
                    · rename_i e'
                      subst e'
                      exact ⟨_, by simpa [wrapV, D.isAgg, Ty.isAgg] using h4⟩
                    · cases hx
                  | agg ds => obtain ⟨cs, _, h4⟩ := hd; exact ⟨_, by simpa [wrapV, D.isAgg] using h4⟩
                  | raw u => simp [D.asTy, as1] at hx
                  | sptr τ' y off => simp [D.asTy, as1] at hx
                  | _ => simp [D.asTy] at hx
                obtain ⟨cs, hv⟩ := hv
                rw [hv] at hrl k2
                simp only [Value.cells] at k2 hrl
                have hpart : ∃ v, (part e cs (n.toNat * j.sz)).run P w = .ok v w ∧ wrapV (isAggD j.desc) ds v := by
                  unfold part
                  cases hA : isAggD j.desc with
                  | true =>
                    refine ⟨.agg ds.toArray, ?_, by simp [wrapV]⟩
                    rw [Sem.run_bind, run_isAgg_lay hlay hj w, hA]
                    simp only [Result.andThen_ok, if_true, Sem.run_bind, run_sizeOf_lay hlay hj, Sem.run_pure, Result.ok.injEq, Value.agg.injEq, and_true]
                    apply Array.ext'
                    rw [Array.toList_extract]
                    apply List.ext_getElem?
                    intro q
                    simp only [List.extract_eq_take_drop, List.getElem?_take, List.getElem?_drop, Nat.add_sub_cancel_left]
                    by_cases hq : q < j.sz
                    · rw [if_pos hq]
                      have := k2 q (by omega)
                      rw [hsz] at this
                      simpa using this
                    · rw [if_neg hq, List.getElem?_eq_none (by omega)]
                  | false =>
                    have hs1 := lay_one hlay hj hA
                    rw [hsz, hs1] at hdl
                    obtain ⟨v, rfl⟩ := List.length_eq_one_iff.1 hdl
                    have := k2 0 (by omega)
                    rw [hsz] at this
                    refine ⟨v, ?_, by unfold wrapV; exact ⟨rfl, RepC.plain k1 v (by simp)⟩⟩
                    rw [Sem.run_bind, run_isAgg_lay hlay hj w, hA]
                    have h5 : cs[n.toNat * j.sz]? = some v := by simpa using this
                    simp [h5]
                obtain ⟨v, hp1, hp2⟩ := hpart
                refine wp_value (w' := w) (v := v) ?_ (hK _ _ _ (putD_ok h2 ha hn ⟨ds, k1, by rw [D.isAgg, hagg]; exact hp2⟩))
                have hin2 : 0 ≤ n ∧ n < (m : Int) := hin
                simp [execOp, ho, hv, hiv, Instr.index, asIntOf, run_underlying hu, hin2, run_sizeOf_lay hlay hj, hp1]
      · cases h2
  · cases h2

theorem op_extract {x : Operand} {n : Nat} (ho : o.op = .extract x n) (h : Run Γ (opPr lay o) L L' rs ws) (ha : Abs E G L a w) (hn : ∀ n, o.dst = some n → n < E.N) : OpOK P E L' o a w := by
  intro K Q hK
  simp only [opPr, ho] at h
  obtain ⟨d, rs1, h1, hd⟩ := evO_ok h ha
  split at h1
  · rename_i ds
    obtain ⟨vs, hv, hall⟩ := hd
    cases hx : ds[n]? with
    | none => rw [hx] at h1; cases h1
    | some d' =>
      rw [hx] at h1
      have : ∃ v, vs[n]? = some v ∧ DW G L w d' v := by
        clear h1 hv h ho
        induction hall generalizing n with
        | nil => simp at hx
        | cons r _ ih =>
          cases n with
          | zero => simp at hx; subst hx; exact ⟨_, rfl, r⟩
          | succ n => simp at hx; exact ih hx
      obtain ⟨v, hv2, hdw⟩ := this
      have hdv : DV G L w d' v := by cases d' <;> first | exact hdw.elim | exact hdw
      refine wp_value (w' := w) (v := v) ?_ (hK _ _ _ (putD_ok h1 ha hn hdv))
      simp [execOp, ho, hv, Instr.extract, hv2]
  · cases h1

end
end Go.Proofs.YtllhidkadhoipaaDoor.Ab
