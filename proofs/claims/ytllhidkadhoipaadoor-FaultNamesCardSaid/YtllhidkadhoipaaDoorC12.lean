/- Each operation of the model does what its abstract one does: numbers, built-in functions, calls; and so all of them. For every program whose types are as told. -/
import Derived.Test.YtllhidkadhoipaaDoorC11
namespace Go.Proofs.YtllhidkadhoipaaDoor.Ab
open Go Go.RowKit

/-- A value that refers to no object of the caller's. -/
def SV (S : Nat → Prop) (w : World) (d : D) (v : Value) : Prop := DV ⟨fun _ => 0, fun _ => .nilFunc, S⟩ (fun _ => none) w d v

theorem step_none (G G' : Gh) (L' : Mem) : Step G (fun _ => none) G' L' := fun _ _ h => by cases h

/-- A call of a function comes to this, whatever the memory: nothing that was there is written to. -/
def CallsAbs (P : Program) (f : FuncId) (ds : List D) (d : D) : Prop :=
  (∀ (args : Array Value) (w : World), (callFunc f args).run P w = .ok (.enter f args) w) ∧
  ∀ (S : Nat → Prop) (w : World) (vs : List Value), Base S w → (∀ b, S b → b < w.heap.size) → All2 (SV S w) ds vs →
    Calls P f vs.toArray w fun e w' => ∃ v S', e = .returned v ∧ SV S' w' d v ∧ Under w.heap.size (fun _ => False) w w' ∧ (∀ b, S b → S' b) ∧ (∀ b, S' b → b < w'.heap.size ∧ (b < w.heap.size → S b))

section
variable {P : Program} {Γ : FuncId → List D → D → Prop} {E : Env} {G : Gh} {L L' : Mem} {a : Act} {w : World} {rs ws : List Loc} {lay : Lay} {o : Oper}

theorem putB_ok {dst : Option Tmp} {r : Option (Bool × D)} (h : Run Γ (putB dst r) L L' rs ws) : ∃ b d rs', r = some (b, d) ∧ b = true ∧ Run Γ (putD dst d) L L' rs' ws := by
  cases r with
  | none => cases h
  | some p =>
    obtain ⟨b, d⟩ := p
    cases h with
    | gd hb h => exact ⟨b, d, _, rfl, hb, h⟩

theorem eqGuard_scalar (op : BinOp) (t : TypeId) (x y : Operand) {u v : Value} (h : (∃ k n, u = .int k n) ∨ (∃ s, u = strV s) ∨ (∃ b, u = .bool b)) : (eqGuard op t x y u v).run P w = .ok () w := by
  rcases h with ⟨k, n, rfl⟩ | ⟨s, rfl⟩ | ⟨b, rfl⟩ <;> (unfold eqGuard; cases op <;> simp)

/-- A part of a struct's cells. -/
theorem run_part_lay (hlay : LayOK P lay) {t : TypeId} {j : LInfo} (hj : lay t = some j) {cs : List Value} {off : Nat} (hle : off + j.sz ≤ cs.length) (h1 : ∀ u ∈ (cs.drop off).take j.sz, u.oneCell' = true) :
    ∃ v, (part t cs.toArray off).run P w = .ok v w ∧ wrapV (isAggD j.desc) ((cs.drop off).take j.sz) v := by
  unfold part
  cases hA : isAggD j.desc with
  | true =>
    refine ⟨.agg ((cs.drop off).take j.sz).toArray, ?_, by simp [wrapV]⟩
    rw [Sem.run_bind, run_isAgg_lay hlay hj w, hA]
    simp only [Result.andThen_ok, if_true, Sem.run_bind, run_sizeOf_lay hlay hj, Sem.run_pure, Result.ok.injEq, Value.agg.injEq, and_true]
    apply Array.ext'
    simp [List.extract_eq_take_drop]
  | false =>
    have hs1 := lay_one hlay hj hA
    have hlt : off < cs.length := by omega
    have e : (cs.drop off).take j.sz = [cs[off]] := by
      rw [hs1, List.drop_eq_getElem_cons hlt]
      rfl
    rw [e] at h1 ⊢
    refine ⟨cs[off], ?_, by simp only [wrapV, Bool.false_eq_true, if_false, true_and]; exact h1 _ (by simp)⟩
    rw [Sem.run_bind, run_isAgg_lay hlay hj w, hA]
    have h5 : cs.toArray[off]? = some cs[off] := by simp [hlt]
    simp [h5]

theorem op_field (hlay : LayOK P lay) {s : TypeId} {x : Operand} {f : Nat} (ho : o.op = .field s x f) (h : Run Γ (opPr lay o) L L' rs ws) (ha : Abs E G L a w) (hn : ∀ n, o.dst = some n → n < E.N) : OpOK P E L' o a w := by
  intro K Q hK
  simp only [opPr, ho] at h
  obtain ⟨d, rs1, h1, hd⟩ := evO_ok h ha
  split at h1
  · rename_i i hi
    split at h1
    · rename_i fs hdesc
      have hu := hlay.und s i hi
      rw [hdesc] at hu
      split at h1
      · rename_i fd hf
        split at h1
        · rename_i j hj
          cases h1 with
          | gd hb h1 =>
            simp only [Bool.and_eq_true] at hb
            obtain ⟨hA, hle⟩ := hb
            have hle := Nat.le_of_ble_eq_true hle
            obtain ⟨cs, hv, hdc⟩ : ∃ cs, a.eval x = .agg (List.toArray cs) ∧ DC G L w d cs := by
              cases d with
              | val τ y => obtain ⟨cs, h2, h3⟩ := hd; exact ⟨cs, by simpa [wrapV, hA] using h3, h2⟩
              | agg ds => obtain ⟨cs, h2, h3⟩ := hd; exact ⟨cs, by simpa [wrapV, hA] using h3, h2⟩
              | _ => cases hA
            have hcs := D.cells_ok hdc
            have hlen := hcs.length
            have hpart := (hcs.drop fd.offset).take j.sz
            cases hmk : mkD (isAggD j.desc) ((d.cells.drop fd.offset).take j.sz) with
            | none => rw [hmk] at h1; cases h1
            | some d' =>
              obtain ⟨v, hv1, hv2⟩ := run_part_lay (w := w) hlay hj (cs := cs) (off := fd.offset) (by rw [hlen]; exact hle) (hpart.plain (mkD_solid hmk))
              refine wp_value (w' := w) (v := v) ?_ (hK _ _ _ (putO_ok h1 ha hn fun d'' hd'' => mkD_ok hd'' hpart hv2))
              simp [execOp, ho, hv, Instr.field, asAgg, run_underlying hu, hf, hv1]
        · cases h1
      · cases h1
    · cases h1
  · cases h1

/-- A slice against nil. -/
theorem nilT_ok (hlay : LayOK P lay) {t : TypeId} {op : BinOp} {d1 d2 : D} {r : Bool} (h : nilT (lay t) op d1 d2 = some r) {u v : Value} (h1 : DV G L w d1 u) (h2 : DV G L w d2 v) : (∃ A n c, u = .slice A n c) ∧ (binOp op t u v).run P w = .ok (.bool r) w := by
  unfold nilT at h
  split at h
  · rename_i i hi
    split at h
    · rename_i e hd
      have hu := hlay.und t i hi
      rw [hd] at hu
      have key : ∀ {b : Bool}, nilB d1 d2 = some b → ∃ A n c, u = .slice A n c ∧ v = .slice none 0 0 ∧ A.isNone = b := by
        intro b hb
        unfold nilB at hb
        split at hb
        · have ev := (DV_raw h2).1
          split at hb
          · cases hb; exact ⟨_, _, _, (DV_raw h1).1, ev, rfl⟩
          · cases hb; exact ⟨_, _, _, (DV_raw h1).1, ev, rfl⟩
          · cases hb
            rcases DV_slice h1 with ⟨_, e2⟩ | ⟨p, cap, cs, e1, _⟩
            · cases e2
            · exact ⟨_, _, _, e1, ev, rfl⟩
          · cases hb
        · cases hb
      have eq : ∀ (A : Option Addr) (n c : Nat), (Op.equal t (.slice A n c) (.slice none 0 0)).run P w = .ok A.isNone w := by
        intro A n c
        rw [Op.equal, show Op.maxDepth = 9999 + 1 from rfl, Op.equalIn, Sem.run_bind, run_underlying hu, Result.andThen_ok]
        cases A <;> simp
      split at h
      · obtain ⟨A, n, c, rfl, rfl, e⟩ := key h
        refine ⟨⟨_, _, _, rfl⟩, ?_⟩
        simp only [binOp, Sem.run_bind, eq, Result.andThen_ok, e]
        rfl
      · split at h
        · rename_i b hb
          cases h
          obtain ⟨A, n, c, rfl, rfl, e⟩ := key hb
          refine ⟨⟨_, _, _, rfl⟩, ?_⟩
          simp only [binOp, Sem.run_bind, eq, Result.andThen_ok, e]
          rfl
        · cases h
      · cases h
    · cases h
  · cases h

theorem eqGuard_slice (op : BinOp) (t : TypeId) (x y : Operand) {u v : Value} (h : ∃ A n c, u = .slice A n c) : (eqGuard op t x y u v).run P w = .ok () w := by
  obtain ⟨A, n, c, rfl⟩ := h
  unfold eqGuard; cases op <;> simp

/-- Is a pointer nil? -/
theorem nilOf_ok {d : D} {k : Bool → Pr} {v : Value} {rs ws : List Loc} (h : Run Γ (nilOf d k) L L' rs ws) (ha : Abs E G L a w) (hd : DV G L w d v) : ∃ r rs', Run Γ (k r) L L' rs' ws ∧ ∃ p, v = .pointer p ∧ p.isNone = r := by
  unfold nilOf at h
  split at h
  · rename_i id g off
    have hd1 := DV_one rfl hd (by simp) (by simp) (by simp)
    cases h with
    | rd h =>
      revert h
      dsimp only
      split
      · rename_i g' n0 hl
        intro h
        cases h with
        | gd hb h =>
          have := beq_nat hb
          subst this
          exact ⟨_, _, h, _, ptr_at hd1 hl, rfl⟩
      · rename_i g' τ y hl
        intro h
        cases h with
        | gd hb h =>
          have := beq_nat hb
          subst this
          obtain ⟨_, c, hc, _, hp⟩ := hd1
          rw [hl] at hc
          cases hc
          exact ⟨_, _, h, _, hp rfl, rfl⟩
      · intro h; cases h
  · rename_i id g i off
    have hd1 := DV_one rfl hd (by simp) (by simp) (by simp)
    cases h with
    | rd h =>
      revert h
      dsimp only
      split
      · rename_i g' e τ xs hl
        intro h
        cases h with
        | gd hb h =>
          have := beq_nat hb
          subst this
          obtain ⟨_, p, ds, hv, _, _⟩ := eptr_ok ha.heap hd1 (.inl ⟨_, hl⟩)
          exact ⟨_, _, h, _, hv, rfl⟩
      · rename_i g' τ xs hl
        intro h
        cases h with
        | gd hb h =>
          have := beq_nat hb
          subst this
          obtain ⟨_, p, ds, hv, _, _⟩ := eptr_ok ha.heap hd1 (.inr hl)
          exact ⟨_, _, h, _, hv, rfl⟩
      · intro h; cases h
  · rename_i τ y off
    obtain ⟨p, ds, hv, hr, hc⟩ := DV_one rfl hd (by simp) (by simp) (by simp)
    exact ⟨_, _, h, _, hv, rfl⟩
  · rename_i τ p
    obtain ⟨cs, ⟨v', rfl, hr⟩, hw⟩ := hd
    obtain ⟨hw1, _⟩ : [v'] = [v] ∧ _ := hw
    cases hw1
    rcases hr with ⟨rfl, rfl⟩ | ⟨q, ds, z, rfl, rfl, k3, k4⟩
    · exact ⟨_, _, h, _, rfl, rfl⟩
    · exact ⟨_, _, h, _, rfl, rfl⟩
  · rename_i u
    cases h with
    | gd hb h =>
      obtain ⟨rfl, _⟩ := DV_raw hd
      have := isNilPtr_iff hb
      subst this
      exact ⟨_, _, h, _, rfl, rfl⟩
  · cases h

theorem nilKind_ok (hlay : LayOK P lay) {op : BinOp} {t t' : TypeId} {x y : Operand} {d2 : D} {neg : Bool} (h : nilKind (lay t) op d2 = some neg) (ho : o.op = .binOp op t x y t') (h2 : DV G L w d2 (a.eval y)) {r : Bool} (hr : ∃ p, a.eval x = .pointer p ∧ p.isNone = r) :
    (execOp a.eval o).run P w = .ok (.value (.bool (bif neg then !r else r))) w := by
  obtain ⟨p, hp, rfl⟩ := hr
  unfold nilKind at h
  split at h
  · rename_i i hi
    split at h
    · rename_i e hd
      have hu := hlay.und t i hi
      rw [hd] at hu
      split at h
      · obtain ⟨hy, _⟩ := DV_raw h2
        have eq : (Op.equal t (.pointer p) (.pointer none)).run P w = .ok p.isNone w := by
          rw [Op.equal, show Op.maxDepth = 9999 + 1 from rfl, Op.equalIn, Sem.run_bind, run_underlying hu, Result.andThen_ok]
          cases p <;> simp
        have gq : ∀ op, (eqGuard op t x y (.pointer p) (.pointer none)).run P w = .ok () w := by
          intro op; unfold eqGuard; cases op <;> simp
        split at h
        · cases h
          simp only [execOp, ho, hp, hy, Sem.run_bind, gq, Result.andThen_ok, binOp, eq]
          rfl
        · cases h
          simp only [execOp, ho, hp, hy, Sem.run_bind, gq, Result.andThen_ok, binOp, eq]
          rfl
        · cases h
      · cases h
    · cases h
  · cases h

theorem aggEq_ok (hlay : LayOK P lay) {op : BinOp} {t t' : TypeId} {x y : Operand} {d1 d2 : D} {r : Bool} (h : aggEq (lay t) op d1 d2 = some r) (ho : o.op = .binOp op t x y t') (h1 : DV G L w d1 (a.eval x)) (h2 : DV G L w d2 (a.eval y)) :
    (execOp a.eval o).run P w = .ok (.value (.bool r)) w := by
  unfold aggEq at h
  split at h
  · rename_i i hi
    split at h
    · rename_i τ hτ
      cases hb : (i.cmp && τ.isAgg) with
      | false => rw [hb] at h; cases h
      | true =>
        rw [hb, cond_true] at h
        simp only [Bool.and_eq_true] at hb
        split at h
        · rename_i u hu
          split at h
          · rename_i v hv
            have r1 := asTy_okV hu h1
            have r2 := asTy_okV hv h2
            have form : ∀ {d : D} {z : τ.I} {q : Value}, d.asTy τ = some z → DV G L w d q → ∃ cs : Array Value, q = .agg cs := by
              intro d z q hx hd
              cases d with
              | val τ' y =>
                obtain ⟨cs, _, h4⟩ := hd
                simp only [D.asTy] at hx
                split at hx
                · rename_i e'
                  subst e'
                  unfold wrapV at h4
                  rw [show D.isAgg (.val τ' y) = τ'.isAgg from rfl, hb.2, if_pos rfl] at h4
                  exact ⟨_, h4⟩
                · cases hx
              | agg ds => obtain ⟨cs, _, h4⟩ := hd; exact ⟨_, by simpa [wrapV, D.isAgg] using h4⟩
              | raw u => cases τ <;> simp [D.asTy, as1, Ty.isAgg] at hx hb
              | sptr τ' y off => cases τ <;> simp [D.asTy, as1, Ty.isAgg] at hx hb
              | _ => simp [D.asTy] at hx
            obtain ⟨cs, e1⟩ := form hu h1
            obtain ⟨ds, e2⟩ := form hv h2
            rw [e1] at r1
            rw [e2] at r2
            obtain ⟨k1, k2⟩ := hlay.eqs t i τ hi hτ hb.1 G.S w u v cs.toList ds.toList r1 r2
            simp only [Array.toArray_toList] at k1
            have gq : ∀ op, (eqGuard op t x y (.agg cs) (.agg ds)).run P w = .ok () w := by
              intro op; unfold eqGuard; cases op <;> simp [k2]
            split at h
            · cases h
              simp only [execOp, ho, e1, e2, Sem.run_bind, gq, Result.andThen_ok, binOp, k1]
              rfl
            · cases h
              simp only [execOp, ho, e1, e2, Sem.run_bind, gq, Result.andThen_ok, binOp, k1]
              rfl
            · cases h
          · cases h
        · cases h
    · cases h
  · cases h

theorem ErrRep.nilOr {S : Nat → Prop} {w : World} {e : Er} {v : Value} (h : ErrRep S w e v) : (v = .nilIface ∧ e.isNil = true) ∨ (∃ t u, v = .iface t u) ∧ e.isNil = false := by
  cases e with
  | nil => exact .inl ⟨h, rfl⟩
  | prob c a => obtain ⟨b, rfl, _⟩ := h; exact .inr ⟨⟨_, _, rfl⟩, rfl⟩
  | wrap e s => obtain ⟨_, b, u, rfl, _⟩ := h; exact .inr ⟨⟨_, _, rfl⟩, rfl⟩
  | inp e n => obtain ⟨_, b, u, rfl, _⟩ := h; exact .inr ⟨⟨_, _, rfl⟩, rfl⟩

theorem errB_ok (hlay : LayOK P lay) {op : BinOp} {t t' : TypeId} {x y : Operand} {d1 : D} {r : Bool} (h : errB (lay t) y op d1 = some r) (ho : o.op = .binOp op t x y t') (h1 : DV G L w d1 (a.eval x)) :
    (execOp a.eval o).run P w = .ok (.value (.bool r)) w := by
  unfold errB at h
  split at h
  · split at h
    · rename_i i hi
      split at h
      · rename_i ms hd
        have hu := hlay.und t i hi
        rw [hd] at hu
        split at h
        · rename_i e
          obtain ⟨cs, ⟨v', rfl, hr⟩, hw⟩ := h1
          obtain ⟨hw1, _⟩ : [v'] = [a.eval x] ∧ _ := hw
          cases hw1
          have hy : a.eval (.const .nilIface) = .nilIface := rfl
          have eqn : (Op.equal t .nilIface .nilIface).run P w = .ok true w := by
            rw [Op.equal, show Op.maxDepth = 9999 + 1 from rfl, Op.equalIn, Sem.run_bind, run_underlying hu, Result.andThen_ok]
            simp
          have eqi : ∀ tt u, (Op.equal t (.iface tt u) .nilIface).run P w = .ok false w := by
            intro tt u
            rw [Op.equal, show Op.maxDepth = 9999 + 1 from rfl, Op.equalIn, Sem.run_bind, run_underlying hu, Result.andThen_ok]
            simp
          have key : (eqGuard op t x (.const .nilIface) (a.eval x) .nilIface).run P w = .ok () w ∧ (binOp .eql t (a.eval x) .nilIface).run P w = .ok (.bool e.isNil) w ∧ (binOp .neq t (a.eval x) .nilIface).run P w = .ok (.bool (!e.isNil)) w := by
            rcases hr.nilOr with ⟨e1, e2⟩ | ⟨⟨tt, u, e1⟩, e2⟩
            · rw [e1, e2]
              refine ⟨?_, ?_, ?_⟩
              · unfold eqGuard; cases op <;> simp
              · simp only [binOp, Sem.run_bind, eqn, Result.andThen_ok]; rfl
              · simp only [binOp, Sem.run_bind, eqn, Result.andThen_ok]; rfl
            · rw [e1, e2]
              refine ⟨?_, ?_, ?_⟩
              · unfold eqGuard; cases op <;> simp
              · simp only [binOp, Sem.run_bind, eqi, Result.andThen_ok]; rfl
              · simp only [binOp, Sem.run_bind, eqi, Result.andThen_ok]; rfl
          obtain ⟨gq, eq1, eq2⟩ := key
          split at h
          · cases h
            simp only [execOp, ho, hy, Sem.run_bind, gq, Result.andThen_ok, eq1]
            rfl
          · cases h
            simp only [execOp, ho, hy, Sem.run_bind, gq, Result.andThen_ok, eq2]
            rfl
          · cases h
        · cases h
      · cases h
    · cases h
  · cases h

theorem op_binOp (hlay : LayOK P lay) {op : BinOp} {t t' : TypeId} {x y : Operand} (ho : o.op = .binOp op t x y t') (h : Run Γ (opPr lay o) L L' rs ws) (ha : Abs E G L a w) (hn : ∀ n, o.dst = some n → n < E.N) : OpOK P E L' o a w := by
  intro K Q hK
  simp only [opPr, ho] at h
  obtain ⟨d1, rs1, h1, hd1⟩ := evO_ok h ha
  obtain ⟨d2, rs2, h2, hd2⟩ := evO_ok h1 ha
  revert h2
  split
  · rename_i r hr
    intro h2
    refine wp_value (w' := w) (v := .bool r) ?_ (hK _ _ _ (putD_ok h2 ha hn (dv_bool _)))
    exact errB_ok hlay hr ho hd1
  rename_i hnone
  clear hnone
  split
  · rename_i r hr
    intro h2
    obtain ⟨k1, k2⟩ := nilT_ok hlay hr hd1 hd2
    refine wp_value (w' := w) (v := .bool r) ?_ (hK _ _ _ (putD_ok h2 ha hn (dv_bool _)))
    simp only [execOp, ho, Sem.run_bind, eqGuard_slice op t x y k1, Result.andThen_ok, k2]
    rfl
  rename_i hnone
  clear hnone
  split
  · rename_i neg hneg
    intro h2
    obtain ⟨r, rs3, h3, hr⟩ := nilOf_ok h2 ha hd1
    refine wp_value (w' := w) (v := .bool (bif neg then !r else r)) ?_ (hK _ _ _ (putD_ok h3 ha hn (dv_bool _)))
    exact nilKind_ok hlay hneg ho hd2 hr
  rename_i hnone
  clear hnone
  split
  · rename_i r hr
    intro h2
    refine wp_value (w' := w) (v := .bool r) ?_ (hK _ _ _ (putD_ok h2 ha hn (dv_bool _)))
    exact aggEq_ok hlay hr ho hd1 hd2
  rename_i hnone
  clear hnone
  intro h2
  obtain ⟨b, d, rs3, hr, hb, h3⟩ := putB_ok h2
  have fin : (∃ k n, a.eval x = .int k n) ∨ (∃ s, a.eval x = strV s) ∨ (∃ b, a.eval x = .bool b) → (∃ v, (binOp op t (a.eval x) (a.eval y)).run P w = .ok v w ∧ DV G L w d v) → o.wp P a w K Q := by
    rintro hsc ⟨v, hv, hdv⟩
    refine wp_value (w' := w) (v := v) ?_ (hK _ _ _ (putD_ok h3 ha hn hdv))
    simp only [execOp, ho, Sem.run_bind, eqGuard_scalar op t x y hsc, Result.andThen_ok, hv]
    rfl
  unfold binB at hr
  split at hr
  · rename_i k n k' m
    have e1 := DV_int hd1
    have e2 := DV_int hd2
    refine fin (.inl ⟨_, _, e1⟩) ?_
    rw [e1, e2]
    cases hs : isShift op with
    | true =>
      rw [hs, cond_true] at hr
      exact shiftB_ok hr hb t
    | false =>
      rw [hs, cond_false] at hr
      cases hk : (k == k') with
      | false => rw [hk] at hr; cases hr
      | true =>
        rw [hk, cond_true] at hr
        have := eq_of_beq hk
        subst this
        exact intB_ok hr hb t
  · have e1 := DV_str hd1
    have e2 := DV_str hd2
    refine fin (.inr (.inl ⟨_, e1⟩)) ?_
    rw [e1, e2]
    exact strB_ok hr hb t
  · have e1 := DV_bool hd1
    have e2 := DV_bool hd2
    refine fin (.inr (.inr ⟨_, e1⟩)) ?_
    rw [e1, e2]
    cases hs : isBoolT (lay t) with
    | false => rw [hs] at hr; cases hr
    | true =>
      rw [hs, cond_true] at hr
      unfold isBoolT at hs
      split at hs
      · rename_i i hi
        split at hs
        · rename_i hd
          exact boolB_ok hr t (by rw [← hd]; exact hlay.und t i hi)
        · cases hs
      · cases hs
  · cases hr

/-- A slice as the source of an append: its cells. -/
theorem src_ok {τ : Ty} {ys : List τ.I} {x : Value} (h : SlRep G.S w (RepC G.S w τ) ys x) :
    (x = .slice none 0 0 ∧ ys = []) ∨ ∃ p c news, x = .slice (some p) ys.length c ∧ RepL (RepC G.S w τ) ys news ∧ news.length = ys.length * τ.sz ∧ (∀ j u, news[j]? = some u → w.cell? (p.add j) = some u) ∧ (∀ u ∈ news, u.oneCell' = true) := by
  rcases h with h | ⟨p, c, cs, e, _, hl, hr⟩
  · exact .inl h
  · exact .inr ⟨p, c, cs, e, hl, RepL.length (fun _ _ h => RepC.length h) hl, fun j u hj => (hr j u hj).2, RepL.all (fun _ _ h => RepC.plain h) hl⟩

theorem castSlice_eq {a b : Ty} (h : a = b) (xs : List a.I) : HEq (castTy (a := .slice a) (b := .slice b) (congrArg Ty.slice h) xs) xs := by subst h; rfl

theorem appendV_ok {ob : Nat} (hlay : LayOK P lay) {t e ty : TypeId} {j : LInfo} (hse : sliceElem lay t = some (e, j)) {τ : Ty} (hty : j.ty = some τ) {s : D} {ys : List τ.I} (h : Run Γ (appendV ob o.dst e j s τ ys) L L' rs ws)
    (ha : Abs E G L a w) (hn : ∀ n, o.dst = some n → n < E.N) {sv xv : Value} (hs : DV G L w s sv) (hx : (xv = .slice none 0 0 ∧ ys = []) ∨ ∃ p c news, xv = .slice (some p) ys.length c ∧ RepL (RepC G.S w τ) ys news ∧ news.length = ys.length * τ.sz ∧ (∀ j u, news[j]? = some u → w.cell? (p.add j) = some u) ∧ (∀ u ∈ news, u.oneCell' = true)) (hj0 : 0 < j.sz) :
    ∃ v' w', (Builtin.append_ #[t, t] ty #[sv, xv]).run P w = .ok v' w' ∧ ∃ G', Abs E G' L' (a.put o.dst v') w' := by
  obtain ⟨hje, hut⟩ := sliceElem_ok hlay hse
  obtain ⟨ie, f1, f2, f3, f4⟩ := lay_info hlay hje
  obtain ⟨hsz, _⟩ := hlay.tys e j τ hje hty
  have hz := hlay.zsz e j hje
  -- one law for both kinds of source
  have law : ∀ (v : Value) (xs : List τ.I) (cs : List Value), w.ownsRow 0 e τ.sz v xs.length cs → (xs.length + ys.length) * j.bytes ≤ maxRoom → xs.length + ys.length ≤ maxRoom → RepL (RepC G.S w τ) xs cs →
      ∃ v' w' news, (Builtin.append_ #[t, t] ty #[v, xv]).run P w = .ok v' w' ∧ w'.ownsRow 0 e τ.sz v' (xs ++ ys).length news ∧ RepL (RepC G.S w τ) (xs ++ ys) news ∧ w.grownBy w' v.ownBlock ∧ (v'.ownBlock = v.ownBlock ∨ v'.ownBlock = some w.heap.size) := by
    intro v xs cs hown hb1 hb2 hrl
    rcases hx with ⟨rfl, rfl⟩ | ⟨p, c, news, rfl, k1, k2, k3, k4⟩
    · refine ⟨v, w, cs, run_append_owned_none w 0 t ty e ie τ.sz hut f1 v xs.length cs hown, by simpa using hown, by simpa using hrl, ⟨rfl, rfl, rfl, Nat.le_refl _, fun _ _ _ => rfl⟩, .inl rfl⟩
    · obtain ⟨v', w', r1, r2, r3, _, r5⟩ := run_append_own_at (P := P) w 0 t ty e ie j.zero τ.sz j.bytes hut f1 f2 (by rw [f3, hsz]) f4 (by rw [hz, hsz]) (by omega) v xs.length cs hown p ys.length c news k2 k3 k4
        (by simp only [maxRoom, maxLen] at *; omega) (by simpa [maxRoom] using hb1) (Nat.zero_le _)
      exact ⟨v', w', cs ++ news, r1, by rw [List.length_append]; exact r2, RepL.append hrl k1, r3, r5⟩
  unfold appendV at h
  split at h
  · rename_i u
    cases h with
    | gd hb h =>
      simp only [Bool.and_eq_true, decide_eq_true_eq] at hb
      obtain ⟨⟨hnil, hb1⟩, hb2⟩ := hb
      have := (DV_raw hs).1
      subst this
      rw [isNilSlice_iff hnil]
      obtain ⟨v', w', news, r1, r2, r3, r4, r5⟩ := law (.slice none 0 0) [] [] (World.ownsRow_nil w 0 e τ.sz) (by simpa using hb1) (by simpa using hb2) rfl
      have hk : Keep G.S w G.S w' := ⟨fun _ h => h, fun b hb => r4.block b (ha.heap.sealed b hb) (by simp [Value.ownBlock])⟩
      have ag : Abs E G L a w' := ha.grown r4 (by simp [Value.ownBlock])
      obtain ⟨G1, h1⟩ := newVec_ok h ag hn (v := v') (by simpa using r2) (by simpa using r3.mono fun _ _ h => RepC.mono hk h) (fun b hb => by
        rcases r5 with r5 | r5
        · rw [r5] at hb; cases hb
        · rw [r5] at hb
          cases hb
          exact ⟨.inl ha.heap.base_le, fun h => Nat.lt_irrefl _ (ha.heap.sealed _ h), fun j h => Nat.lt_irrefl _ (ha.heap.own_lt h)⟩)
      exact ⟨v', w', r1, G1, h1⟩
  · rename_i id g
    obtain ⟨_, c, hc, _, hpp⟩ := DV_one rfl hs (by simp) (by simp) (by simp)
    cases h with
    | rd h =>
      revert h
      dsimp only
      split
      · rename_i g' e' τ' xs hl
        split
        · rename_i hτ
          subst hτ
          intro h
          cases h with
          | gd hb h =>
            simp only [Bool.and_eq_true, decide_eq_true_eq] at hb
            obtain ⟨⟨⟨hg, he⟩, hb1⟩, hb2⟩ := hb
            have hg := beq_nat hg
            have he := beq_nat he
            subst hg he
            rw [hc] at hl
            cases hl
            have hv : sv = G.vv id := hpp rfl
            subst hv
            obtain ⟨cs, hown, hrl⟩ := ha.heap.vec id g e τ' xs hc
            obtain ⟨v', w', news, r1, r2, r3, r4, r5⟩ := law (G.vv id) xs cs hown hb1 hb2 hrl
            -- the slice is let go, the world turns, it comes back
            obtain ⟨k1, k2, k3⟩ := ha.kill hc (Nat.le_refl _)
            have hidown : ownB G L id = (G.vv id).ownBlock := ownB_some hc
            rw [hidown] at k3
            have hown0 : ∀ b, (G.vv id).ownBlock = some b → (E.base ≤ b ∨ E.X b) ∧ ¬ G.S b := fun b hb => ha.heap.own id b (by simp [ownB, hc, hb, ownC])
            have ag : Abs E G (upd L (.obj id) (.dead g)) a w' := k1.grown r4 (fun k hk => ⟨(hown0 k hk).1, (hown0 k hk).2, fun j => k3 j k hk⟩)
            have hk : Keep G.S w G.S w' := ⟨fun _ h => h, fun b hb => r4.block b (ha.heap.sealed b hb) (fun e => (hown0 b e.symm).2 hb)⟩
            obtain ⟨G1, m1, m2, m3, m4⟩ := ag.newVec (n := id) (g := g + 1) (e := e) (τ := τ') (xs := xs ++ ys) (v := v') (cs := news) (fun c hc' => by simp [upd] at hc'; subst hc'; exact Nat.lt_succ_self _) r2 (r3.mono fun _ _ h => RepC.mono hk h) (fun b hb => by
              rcases r5 with r5 | r5
              · rw [r5] at hb
                exact ⟨(hown0 b hb).1, (hown0 b hb).2, fun j _ => k3 j b hb⟩
              · rw [r5] at hb
                cases hb
                exact ⟨.inl ha.heap.base_le, fun h => Nat.lt_irrefl _ (ha.heap.sealed _ h), fun j _ h => Nat.lt_irrefl _ (k1.heap.own_lt h)⟩)
            have hL : upd (upd L (.obj id) (.dead g)) (.obj id) (.vec (g + 1) e τ' (xs ++ ys)) = upd L (.obj id) (.vec (g + 1) e τ' (xs ++ ys)) := by
              funext l; simp only [upd]; split <;> rfl
            rw [hL] at m1
            cases h with
            | wr h =>
              refine ⟨v', w', r1, G1, putD_ok h m1 hn ?_⟩
              have h1cell : v'.oneCell' = true := by rcases r2.2 with ⟨rfl, _⟩ | ⟨_, _, _, rfl, _⟩ <;> rfl
              exact ⟨[_], ⟨_, rfl, h1cell, .vec (g + 1) e τ' (xs ++ ys), by simp [upd]; rfl, Nat.le_refl _, fun _ => m2.symm⟩, rfl, h1cell⟩
        · intro h; cases h
      · intro h; cases h
  · cases h

theorem run_builtin {b : Builtin} {c : Call} (ho : o.op = .call c) (hc : c.callee = .builtin b) {v : Value} {w' : World} (h : (builtin b c.argTypes o.type (c.args.map fun | .const _ => true | _ => false) (c.args.map a.eval)).run P w = .ok (.value v) w') :
    (execOp a.eval o).run P w = .ok (.value v) w' := by
  simp only [execOp, ho, resolve, hc, Sem.run_bind, Sem.run_pure, Result.andThen_ok, invoke]
  exact h

theorem op_builtin (hlay : LayOK P lay) {b : Builtin} {c : Call} (ho : o.op = .call c) (hc : c.callee = .builtin b) (h : Run Γ (opPr lay o) L L' rs ws) (ha : Abs E G L a w) (hn : ∀ n, o.dst = some n → n < E.N) : OpOK P E L' o a w := by
  intro K Q hK
  simp only [opPr, ho, hc] at h
  obtain ⟨ds, rs1, h1, hds⟩ := evOs_ok h ha
  have hargs : c.args.map a.eval = (c.args.toList.map a.eval).toArray := by rw [← Array.toList_map, Array.toArray_toList]
  have htys : c.argTypes = c.argTypes.toList.toArray := by rw [Array.toArray_toList]
  generalize hA : c.args.toList.map a.eval = vs at hds hargs
  generalize hT : c.argTypes.toList = ts at h1 htys
  unfold builtinPr at h1
  split at h1
  · -- len
    rename_i d
    cases hds with
    | cons hd hnil =>
      cases hnil
      rename_i v
      have fin : ∀ {n : Int}, (Builtin.len_ c.argTypes o.type #[v]).run P w = .ok (.int .i64 n) w → (∃ rs, Run Γ (putD o.dst (.val (.int .i64) n)) L L' rs ws) → o.wp P a w K Q := by
        rintro n hr ⟨rs, h2⟩
        refine wp_value (run_builtin ho hc ?_) (hK _ _ _ (putD_ok h2 ha hn (dv_int .i64 n)))
        rw [hargs]
        simp [builtin, hr]
      have hty : ∀ {b}, lenT lay ts = some b → ∃ t i, ts = [t] ∧ lay t = some i ∧ (b = false → i.desc = .string) ∧ (b = true → ∃ e, i.desc = .slice e) := by
        intro b hb
        unfold lenT at hb
        split at hb
        · rename_i t
          split at hb
          · rename_i i hi
            split at hb
            · rename_i hd'; cases hb; exact ⟨t, i, rfl, hi, fun _ => hd', by simp⟩
            · rename_i e hd'; cases hb; exact ⟨t, i, rfl, hi, by simp, fun _ => ⟨e, hd'⟩⟩
            · cases hb
          · cases hb
        · cases hb
      have slLen : ∀ {A : Option Addr} {n cap : Nat}, lenT lay ts = some true → v = .slice A n cap → (Builtin.len_ c.argTypes o.type #[v]).run P w = .ok (.int .i64 (n : Int)) w := by
        intro A n cap hb hv
        obtain ⟨t, i, e1, e2, _, e4⟩ := hty hb
        obtain ⟨e, e5⟩ := e4 rfl
        have hu := hlay.und t i e2
        rw [e5] at hu
        rw [htys, e1, hv]
        simp [Builtin.len_, run_underlying hu, goInt]
      split at h1
      · rename_i s hb
        obtain ⟨t, i, e1, e2, e3, _⟩ := hty hb
        have hu := hlay.und t i e2
        rw [e3 rfl] at hu
        refine fin (n := (s.length : Int)) ?_ ⟨_, h1⟩
        rw [htys, e1, DV_str hd]
        simp [Builtin.len_, run_underlying hu, goInt, strV]
        rfl
      · rename_i τ xs hb
        rcases DV_slice hd with ⟨e1, rfl⟩ | ⟨p, cap, cs, e1, _⟩
        · exact fin (slLen hb e1) ⟨_, h1⟩
        · exact fin (slLen hb e1) ⟨_, h1⟩
      · rename_i u hb
        cases h1 with
        | gd hg h1 =>
          have e1 := (DV_raw hd).1
          rw [isNilSlice_iff hg] at e1
          exact fin (n := 0) (by simpa using slLen hb e1) ⟨_, h1⟩
      · rename_i id g hb
        obtain ⟨_, cc, hcc, _, hpp⟩ := DV_one rfl hd (by simp) (by simp) (by simp)
        cases h1 with
        | rd h1 =>
          revert h1
          dsimp only
          split
          · rename_i g' e τ xs hl
            intro h1
            cases h1 with
            | gd hg h1 =>
              have hg := beq_nat hg
              subst hg
              rw [hcc] at hl
              cases hl
              have hv : v = G.vv id := hpp rfl
              obtain ⟨cs, hown, _⟩ := ha.heap.vec id g e τ xs hcc
              rcases hown.2 with ⟨h0, h2⟩ | ⟨b', cap, cur, h0, _⟩
              · exact fin (n := (xs.length : Int)) (by rw [h2]; exact slLen hb (hv.trans h0)) ⟨_, h1⟩
              · exact fin (slLen hb (hv.trans h0)) ⟨_, h1⟩
          · rename_i g' τ xs hl
            intro h1
            cases h1 with
            | gd hg h1 =>
              have hg := beq_nat hg
              subst hg
              rw [hcc] at hl
              cases hl
              have hv : v = G.vv id := hpp rfl
              rcases ha.heap.sl id g τ xs hcc with ⟨h0, rfl⟩ | ⟨p, cap, cs, h0, _⟩
              · exact fin (slLen hb (hv.trans h0)) ⟨_, h1⟩
              · exact fin (slLen hb (hv.trans h0)) ⟨_, h1⟩
          · intro h1; cases h1
      · cases h1
  · -- append
    rename_i s x
    cases hds with
    | cons hs hr =>
      cases hr with
      | cons hx hnil =>
        cases hnil
        rename_i sv xv
        split at h1
        · rename_i t t'
          cases hse : sliceElem lay t with
          | none => rw [hse] at h1; cases h1
          | some ej =>
            obtain ⟨e, j⟩ := ej
            rw [hse] at h1
            simp only at h1
            cases htt : Nat.beq t t' with
            | false => rw [htt] at h1; cases h1
            | true =>
              rw [htt, cond_true] at h1
              have htt := beq_nat htt
              subst htt
              cases hty : j.ty with
              | none => rw [hty] at h1; cases h1
              | some τ =>
                rw [hty] at h1
                simp only at h1
                cases h1 with
                | gd hj0 h1 =>
                  have hj0 : 0 < j.sz := Nat.le_of_ble_eq_true hj0
                  have fin : ∀ {ys : List τ.I}, (∃ rs, Run Γ (appendV lay.ob o.dst e j s τ ys) L L' rs ws) → ((xv = .slice none 0 0 ∧ ys = []) ∨ ∃ p c news, xv = .slice (some p) ys.length c ∧ RepL (RepC G.S w τ) ys news ∧ news.length = ys.length * τ.sz ∧ (∀ j u, news[j]? = some u → w.cell? (p.add j) = some u) ∧ (∀ u ∈ news, u.oneCell' = true)) → o.wp P a w K Q := by
                    rintro ys ⟨rs, h2⟩ hsrc
                    obtain ⟨v', w', r1, G1, h3⟩ := appendV_ok hlay hse hty (ty := o.type) h2 ha hn hs hsrc hj0
                    refine wp_value (run_builtin ho hc ?_) (hK _ _ _ h3)
                    rw [hargs, htys]
                    simp [builtin, r1]
                  split at h1
                  · rename_i id g
                    obtain ⟨_, cc, hcc, _, hpp⟩ := DV_one rfl hx (by simp) (by simp) (by simp)
                    cases h1 with
                    | rd h1 =>
                      revert h1
                      dsimp only
                      split
                      · rename_i g' e' τ' ys hl
                        split
                        · rename_i hτ
                          subst hτ
                          intro h1
                          cases h1 with
                          | gd hg h1 =>
                            have hg := beq_nat hg
                            subst hg
                            rw [hcc] at hl
                            cases hl
                            have hv : xv = G.vv id := hpp rfl
                            obtain ⟨cs, hown, hrl⟩ := ha.heap.vec id g e' τ' ys hcc
                            refine fin ⟨_, h1⟩ ?_
                            rcases hown.2 with ⟨h0, h2⟩ | ⟨b', cap, cur, h0, hh⟩
                            · exact .inl ⟨hv.trans h0, List.eq_nil_of_length_eq_zero h2⟩
                            · exact .inr ⟨_, cap, cs, hv.trans h0, hrl, hown.1, hown.cells (g := b') (by rw [h0]; rfl), RepL.all (fun _ _ h => RepC.plain h) hrl⟩
                        · intro h1; cases h1
                      · rename_i g' τ' ys hl
                        split
                        · rename_i hτ
                          subst hτ
                          intro h1
                          cases h1 with
                          | gd hg h1 =>
                            have hg := beq_nat hg
                            subst hg
                            rw [hcc] at hl
                            cases hl
                            have hv : xv = G.vv id := hpp rfl
                            exact fin ⟨_, h1⟩ (hv ▸ src_ok (ha.heap.sl id g τ' ys hcc))
                        · intro h1; cases h1
                      · intro h1; cases h1
                  · rename_i τ' ys
                    split at h1
                    · rename_i hτ
                      subst hτ
                      exact fin ⟨_, h1⟩ (src_ok (DV_slice hx))
                    · cases h1
                  · rename_i u
                    cases h1 with
                    | gd hg h1 =>
                      have e1 := (DV_raw hx).1
                      unfold isEmptySlice at hg
                      split at hg
                      · exact fin (ys := []) ⟨_, h1⟩ (.inl ⟨e1, rfl⟩)
                      · rename_i p c
                        exact fin (ys := []) ⟨_, h1⟩ (.inr ⟨p, c, [], e1, rfl, by simp, by simp, by simp⟩)
                      · cases hg
                  · cases h1
        · cases h1
  · -- min
    rename_i k x k' y
    cases hds with
    | cons hx hr =>
      cases hr with
      | cons hy hnil =>
        cases hnil
        cases h1 with
        | gd hg h1 =>
          refine wp_value (w' := w) (run_builtin ho hc ?_) (hK _ _ _ (putD_ok h1 ha hn (dv_int _ _)))
          rw [hargs, DV_int hx, DV_int hy]
          simp [builtin, run_min_int2]
  · -- max
    rename_i k x k' y
    cases hds with
    | cons hx hr =>
      cases hr with
      | cons hy hnil =>
        cases hnil
        cases h1 with
        | gd hg h1 =>
          refine wp_value (w' := w) (run_builtin ho hc ?_) (hK _ _ _ (putD_ok h1 ha hn (dv_int _ _)))
          rw [hargs, DV_int hx, DV_int hy]
          simp [builtin, run_max_int2]
  · cases h1

end
end Go.Proofs.YtllhidkadhoipaaDoor.Ab
