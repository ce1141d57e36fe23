/- Each operation of the model does what its abstract one does: maps. For every program whose types are as told. -/
import Derived.Test.YtllhidkadhoipaaDoorE3
import Derived.Laws.RangeString
import Derived.MapKept
namespace Go.Proofs.YtllhidkadhoipaaDoor.Ab
open Go Go.RowKit
set_option linter.unusedSimpArgs false
set_option linter.unusedVariables false

theorem beqA (n : Nat) : Nat.beq n n = true := by simp

section
variable {P : Program} {t : TypeId} {d : TypeDesc} {κ τ : Ty} {S : Nat → Prop} {w : World} {x : κ.I} {cs : List Value} {k : Value}

/-- What is found of a key. -/
theorem find_aux (hk : KeyOK P t κ) (hu : P.underlying t = some d) (h1 : RepC S w κ x cs) (h2 : wrapV κ.isAgg cs k) : ∀ {xs : List (κ.I × τ.I)} {es : List MapEntry}, EntRep κ.isAgg τ.isAgg (RepC S w κ) (RepC S w τ) xs es →
    (mapGet κ.beq xs x = none ∧ (∀ n, (Instr.findAsking t k es n).run P w = .ok none w) ∧ (∀ n r, Instr.findNow d k es n = some r → r = none) ∧ (∀ v, mapPut κ.beq xs x v = xs ++ [(x, v)]) ∧ mapDel κ.beq xs x = xs) ∨
    ∃ i e v, mapGet κ.beq xs x = some v ∧ (∀ n, (Instr.findAsking t k es n).run P w = .ok (some (n + i, e.val)) w) ∧ (∀ n r, Instr.findNow d k es n = some r → r = some (n + i, e.val)) ∧
      es[i]? = some e ∧ (∃ us, RepC S w τ v us ∧ wrapV τ.isAgg us e.val) ∧ Instr.sameBits 10000 e.key k = true ∧
      (∀ u (f : MapEntry → MapEntry), (f e).key = k → (∃ us, RepC S w τ u us ∧ wrapV τ.isAgg us (f e).val) → EntRep κ.isAgg τ.isAgg (RepC S w κ) (RepC S w τ) (mapPut κ.beq xs x u) (es.modify i f)) ∧
      EntRep κ.isAgg τ.isAgg (RepC S w κ) (RepC S w τ) (mapDel κ.beq xs x) (es.eraseIdx i)
  | [], _, h => by
    cases h
    refine .inl ⟨rfl, fun n => ?_, fun n r h => ?_, fun v => rfl, rfl⟩
    · simp [Instr.findAsking]
    · simp [Instr.findNow] at h; exact h.symm
  | p :: ps, _, ⟨e, r, rfl, ⟨ds, k1, k2⟩, hv, hr⟩ => by
    obtain ⟨hq, hs, hn⟩ := (hk S w x cs k h1 h2).2 p.1 ds e.key k1 k2
    cases hb : κ.beq x p.1 with
    | true =>
      rw [hb] at hq
      refine .inr ⟨0, e, p.2, by simp [mapGet, hb], fun n => ?_, fun n r h => ?_, rfl, hv, hs hb, fun u f f1 f2 => ?_, ?_⟩
      · unfold Instr.findAsking
        simp [hq]
      · unfold Instr.findNow at h
        split at h
        · cases h; simp
        · rename_i h3; have := hn d _ hu h3; rw [hb] at this; cases this
        · cases h
      · simp only [mapPut, hb, cond_true]
        exact ⟨f e, r, by simp, ⟨cs, h1, by rw [f1]; exact h2⟩, f2, hr⟩
      · simp only [mapDel, hb, cond_true]
        exact hr
    | false =>
      rw [hb] at hq
      have hfa : ∀ n, (Instr.findAsking t k (e :: r) n).run P w = (Instr.findAsking t k r (n + 1)).run P w := fun n => by
        conv => lhs; unfold Instr.findAsking
        simp [hq]
      have hfn : ∀ n q, Instr.findNow d k (e :: r) n = some q → Instr.findNow d k r (n + 1) = some q := fun n q h => by
        unfold Instr.findNow at h
        split at h
        · rename_i h3; have := hn d _ hu h3; rw [hb] at this; cases this
        · exact h
        · cases h
      rcases find_aux hk hu h1 h2 hr with ⟨a1, a2, a3, a4, a5⟩ | ⟨i, e', v, a1, a2, a3, a4, a5, a6, a7, a8⟩
      · refine .inl ⟨by simp [mapGet, hb, a1], fun n => (hfa n).trans (a2 _), fun n q h => a3 _ _ (hfn n q h), fun v => by simp [mapPut, hb, a4], by simp [mapDel, hb, a5]⟩
      · refine .inr ⟨i + 1, e', v, by simp [mapGet, hb, a1], fun n => ?_, fun n q h => ?_, by simpa using a4, a5, a6, fun u f f1 f2 => ?_, ?_⟩
        · rw [hfa, a2, Nat.add_assoc, Nat.add_comm 1]
        · rw [a3 _ _ (hfn n q h), Nat.add_assoc, Nat.add_comm 1]
        · simp only [mapPut, hb, cond_false]
          exact ⟨e, _, by simp, ⟨ds, k1, k2⟩, hv, a7 u f f1 f2⟩
        · simp only [mapDel, hb, cond_false]
          exact ⟨e, _, by simp, ⟨ds, k1, k2⟩, hv, a8⟩

theorem find_ok (hk : KeyOK P t κ) (hu : P.underlying t = some d) (h1 : RepC S w κ x cs) (h2 : wrapV κ.isAgg cs k) {xs : List (κ.I × τ.I)} {es : List MapEntry} (he : EntRep κ.isAgg τ.isAgg (RepC S w κ) (RepC S w τ) xs es) :
    (mapGet κ.beq xs x = none ∧ (Instr.findKey t k es).run P w = .ok none w ∧ (∀ v, mapPut κ.beq xs x v = xs ++ [(x, v)]) ∧ mapDel κ.beq xs x = xs) ∨
    ∃ i e v, mapGet κ.beq xs x = some v ∧ (Instr.findKey t k es).run P w = .ok (some (i, e.val)) w ∧ es[i]? = some e ∧ (∃ us, RepC S w τ v us ∧ wrapV τ.isAgg us e.val) ∧ Instr.sameBits 10000 e.key k = true ∧
      (∀ u (f : MapEntry → MapEntry), (f e).key = k → (∃ us, RepC S w τ u us ∧ wrapV τ.isAgg us (f e).val) → EntRep κ.isAgg τ.isAgg (RepC S w κ) (RepC S w τ) (mapPut κ.beq xs x u) (es.modify i f)) ∧
      EntRep κ.isAgg τ.isAgg (RepC S w κ) (RepC S w τ) (mapDel κ.beq xs x) (es.eraseIdx i) := by
  have hf : (Instr.findKey t k es).run P w = (match Instr.findNow d k es 0 with | some r => (.ok r w : Result _) | none => (Instr.findAsking t k es 0).run P w) := by
    unfold Instr.findKey
    simp only [Sem.run_bind, run_underlying hu, Result.andThen_ok]
    cases Instr.findNow d k es 0 <;> simp
  rcases find_aux hk hu h1 h2 he with ⟨a1, a2, a3, a4, a5⟩ | ⟨i, e', v, a1, a2, a3, a4, a5, a6, a7, a8⟩
  · refine .inl ⟨a1, ?_, a4, a5⟩
    rw [hf]
    cases h : Instr.findNow d k es 0 with
    | none => exact a2 0
    | some r => rw [a3 0 r h]
  · refine .inr ⟨i, e', v, a1, ?_, a4, a5, a6, a7, a8⟩
    rw [hf]
    cases h : Instr.findNow d k es 0 with
    | none => have := a2 0; rw [Nat.zero_add] at this; exact this
    | some r => rw [a3 0 r h, Nat.zero_add]

theorem EntRep.push {xs : List (κ.I × τ.I)} {es : List MapEntry} (he : EntRep κ.isAgg τ.isAgg (RepC S w κ) (RepC S w τ) xs es) {v : τ.I} {e : MapEntry} (h1 : ∃ cs, RepC S w κ x cs ∧ wrapV κ.isAgg cs e.key) (h2 : ∃ cs, RepC S w τ v cs ∧ wrapV τ.isAgg cs e.val) :
    EntRep κ.isAgg τ.isAgg (RepC S w κ) (RepC S w τ) (xs ++ [(x, v)]) (es ++ [e]) := by
  induction xs generalizing es with
  | nil => cases he; exact ⟨e, [], rfl, h1, h2, rfl⟩
  | cons p ps ih => obtain ⟨e', r, rfl, a1, a2, a3⟩ := he; exact ⟨e', r ++ [e], rfl, a1, a2, ih a3⟩
end

section
variable {P : Program} {Γ : FuncId → List D → D → Prop} {E : Env} {G : Gh} {L L' : Mem} {a : Act} {w : World} {rs ws : List Loc} {lay : Lay} {o : Oper}

/-- A value as data of a type: in one piece. -/
theorem asTy_wrap {τ : Ty} {d : D} {x : τ.I} {v : Value} (h : d.asTy τ = some x) (hd : DV G L w d v) : wrapV τ.isAgg v.cells.toList v := by
  have one : ∀ {cs : List Value}, wrapV false cs v → wrapV false v.cells.toList v := fun {cs} h => by rw [h.cells]; exact h
  have as1a : ∀ {d : D}, as1 τ d = some x → (∀ τ y, d ≠ .val τ y) → τ.isAgg = false := by
    intro d h hne
    unfold as1 at h
    split at h
    · exact absurd rfl (hne _ _)
    · split at h
      all_goals first | rfl | cases h
    · split at h
      · rfl
      · cases h
    · cases h
  cases d with
  | tup ds => simp [D.asTy] at h
  | val τ' y =>
    simp only [D.asTy] at h
    split at h
    · rename_i e
      subst e
      obtain ⟨cs, h1, h2⟩ := hd
      rw [h2.cells]
      exact h2
    · cases h
  | raw u =>
    obtain ⟨cs, _, h2⟩ := hd
    rw [as1a (show as1 τ (.raw u) = some x from h) (by intros; simp)]
    exact one h2
  | sptr τ' y off =>
    obtain ⟨cs, _, h2⟩ := hd
    rw [as1a (show as1 τ (.sptr τ' y off) = some x from h) (by intros; simp)]
    exact one h2
  | agg ds =>
    simp only [D.asTy] at h
    cases hA : τ.isAgg with
    | false => rw [hA] at h; cases h
    | true =>
      obtain ⟨cs, _, h2⟩ := hd
      rw [h2.cells]
      exact h2
  | _ => simp [D.asTy] at h

theorem sealTy_ok2 {τ : Ty} {d : D} {k : τ.I → Pr} {v : Value} (h : Run Γ (sealTy τ d k) L L' rs ws) (ha : Abs E G L a w) (hd : DV G L w d v) :
    ∃ x G1 L1 rs' ws', Run Γ (k x) L1 L' rs' ws' ∧ After E G L a w G1 L1 ∧ RepC G1.S w τ x v.cells.toList ∧ wrapV τ.isAgg v.cells.toList v := by
  obtain ⟨d', G1, L1, rs1, ws1, h1, a1, k1⟩ := sealD_ok h ha hd
  cases hx : d'.asTy τ with
  | none => rw [hx] at h1; cases h1
  | some x => rw [hx] at h1; exact ⟨x, G1, L1, rs1, ws1, h1, a1, asTy_okV hx k1, asTy_wrap hx k1⟩

theorem mapT_ok (hlay : LayOK P lay) {t : TypeId} {κ τ : Ty} {ei : LInfo} (h : mapT lay t = some (κ, τ, ei)) :
    ∃ k e d, P.underlying t = some (.map k e) ∧ P.underlying k = some d ∧ KeyOK P k κ ∧ lay e = some ei ∧ ei.ty = some τ := by
  unfold mapT at h
  split at h
  · rename_i i hi
    split at h
    · rename_i k e hd
      split at h
      · rename_i ki ei' hk he
        split at h
        · rename_i κ' τ' h1 h2
          cases hb : ki.key with
          | false => rw [hb] at h; cases h
          | true =>
            rw [hb] at h
            cases h
            exact ⟨k, e, ki.desc, by rw [← hd]; exact hlay.und t i hi, hlay.und k ki hk, hlay.keys k ki _ hk h1 hb, he, h2⟩
        · cases h
      · cases h
    · cases h
  · cases h

theorem op_makeMap (hlay : LayOK P lay) {t : TypeId} {r : Option Operand} (ho : o.op = .makeMap t r) (h : Run Γ (opPr lay o) L L' rs ws) (ha : Abs E G L a w) (hn : ∀ n, o.dst = some n → n < E.N) : OpOK P E L' o a w := by
  intro K Q hK
  simp only [opPr, ho] at h
  split at h
  · rename_i κ τ ei hm
    obtain ⟨kt, et, d, hut, _⟩ := mapT_ok hlay hm
    obtain ⟨n0, rs1, h1, hb⟩ := evBound_ok h ha
    unfold newMap at h1
    split at h1
    · rename_i n hdst
      cases h1 with
      | rd h1 =>
        cases h1 with
        | wr h1 =>
          cases h1 with
          | wr h1 =>
            cases h1
            let G1 : Gh := { G with blk := fun j => if j = n + lay.ob then w.heap.size else G.blk j }
            have hbl : G1.blk (n + lay.ob) = w.heap.size := by simp [G1]
            obtain ⟨w1, hw1⟩ : ∃ w1, w.alloc (.map #[] 0) = w1 := ⟨_, rfl⟩
            have hnew : w1.heap[w.heap.size]? = some (.map #[] 0) := by rw [← hw1]; exact (MapKept.heap_alloc w _).1
            have ag : Abs E G L a w1 := ha.grown (by rw [← hw1]; exact World.grownBy_alloc w _ none) (by simp)
            have key := ag.newObj (n := n + lay.ob) (c := .map (nextGen (L (.obj (n + lay.ob)))) κ τ []) (fun c hc => by rw [hc]; exact Nat.lt_succ_self _) (G1 := G1) rfl (fun j hj => ⟨by simp [G1, hj], rfl⟩)
              (by exact ⟨#[], 0, by rw [hbl]; exact hnew, rfl⟩)
              (fun b hb' => by
                have : w.heap.size = b := by rw [← hbl]; exact Option.some.inj hb'
                subst this
                exact ⟨.inl ha.heap.base_le, fun h => Nat.lt_irrefl _ (ha.heap.sealed _ h), fun j h => Nat.lt_irrefl _ (ha.heap.own_lt h)⟩)
            have hput := key.abs.put (d := .mp (n + lay.ob) (nextGen (L (.obj (n + lay.ob))))) (v := .map (some w.heap.size)) (hn n hdst) ⟨[_], ⟨_, rfl, rfl, .map (nextGen (L (.obj (n + lay.ob)))) κ τ [], by simp [upd], Nat.le_refl _, fun _ => by simp [isMapAt, hbl]⟩, rfl, rfl⟩
            refine wp_value (w' := w1) (v := .map (some w.heap.size)) ?_ (hK _ _ _ (by rw [hdst]; exact hput))
            have hrun : (Instr.makeMap t (r.map a.eval)).run P w = .ok (.map (some w.heap.size)) w1 := by
              rw [← hw1]
              rcases hb with ⟨e1, _⟩ | ⟨kd, e1⟩
              · rw [e1]; simp [Instr.makeMap]
              · rw [e1]; simp [Instr.makeMap, run_underlying hut, asInt, asIntOf]
            simp [execOp, ho, hrun]
    · cases h1
  · cases h

/-- What a map's data are, in the world. -/
theorem mapData_ok {κ τ : Ty} {d : D} {k : List (κ.I × τ.I) → Pr} {v : Value} (h : Run Γ (mapData κ τ d k) L L' rs ws) (ha : Abs E G L a w) (hd : DV G L w d v) :
    ∃ xs rs', Run Γ (k xs) L L' rs' ws ∧ ((v = .map none ∧ xs = []) ∨ ∃ b es clock, v = .map (some b) ∧ w.heap[b]? = some (.map es clock) ∧ EntRep κ.isAgg τ.isAgg (RepC G.S w κ) (RepC G.S w τ) xs es.toList) := by
  unfold mapData at h
  split at h
  · rename_i κ' τ' xs
    split at h
    · rename_i e
      cases e
      obtain ⟨cs, ⟨v', rfl, h1⟩, h2⟩ := hd
      obtain ⟨h2, _⟩ : [_] = [v] ∧ _ := h2
      cases h2
      refine ⟨xs, rs, h, ?_⟩
      rcases h1 with h1 | ⟨b, es, cl, e1, _, e2, e3⟩
      · exact .inl h1
      · exact .inr ⟨b, es, cl, e1, e2, e3⟩
    · cases h
  · rename_i id g
    obtain ⟨_, cc, hcc, _, hpp⟩ := DV_one rfl hd (by simp) (by simp) (by simp)
    cases h with
    | rd h =>
      revert h
      dsimp only
      split
      · rename_i g' κ' τ' xs hl
        intro h
        split at h
        · rename_i e
          cases e
          cases h with
          | gd hb h =>
            have hg := beq_nat hb
            subst hg
            rw [hcc] at hl
            cases hl
            obtain ⟨es, cl, e1, e2⟩ := ha.heap.obj id _ hcc
            exact ⟨xs, _, h, .inr ⟨_, es, cl, hpp rfl, e1, e2⟩⟩
        · cases h
      · rename_i g' κ' τ' xs hl
        intro h
        split at h
        · rename_i e
          cases e
          cases h with
          | gd hb h =>
            have hg := beq_nat hb
            subst hg
            rw [hcc] at hl
            cases hl
            have hp : v = .map (some (G.blk id)) := hpp rfl
            rcases ha.heap.obj id _ hcc with ⟨h1, _⟩ | ⟨b, es, cl, e1, _, e2, e3⟩
            · cases h1
            · cases e1
              exact ⟨xs, _, h, .inr ⟨_, es, cl, hp, e2, e3⟩⟩
        · cases h
      · intro h; cases h
  · rename_i u
    cases h with
    | gd hb h =>
      have := DV_one rfl hd (by simp) (by simp) (by simp)
      obtain ⟨rfl, _⟩ := this
      exact ⟨[], _, h, .inl ⟨isNilMap_iff hb, rfl⟩⟩
  · cases h

theorem op_lookup (hlay : LayOK P lay) {t : TypeId} {m kx : Operand} {ok : Bool} (ho : o.op = .lookup t m kx ok) (h : Run Γ (opPr lay o) L L' rs ws) (ha : Abs E G L a w) (hn : ∀ n, o.dst = some n → n < E.N) : OpOK P E L' o a w := by
  intro K Q hK
  simp only [opPr, ho] at h
  split at h
  · rename_i κ τ ei hm
    obtain ⟨kt, et, d, hut, huk, hkey, hle, hty⟩ := mapT_ok hlay hm
    obtain ⟨md, rs1, h1, hmd⟩ := evO_ok h ha
    obtain ⟨kd, rs2, h2, hkd⟩ := evO_ok h1 ha
    split at h2
    · rename_i key hk
      split at h2
      · rename_i z hz
        obtain ⟨xs, rs3, h3, hcase⟩ := mapData_ok h2 ha hmd
        have hkr := asTy_okV hk hkd
        have hkw := asTy_wrap hk hkd
        have hzr : RepC G.S w τ z ei.zero.cells.toList := asmAll_ok (L := L) hz (ofVs_ok _)
        have hzw : wrapV τ.isAgg ei.zero.cells.toList ei.zero := by rw [(hlay.tys et ei τ hle hty).2]; exact hlay.zok et ei hle
        obtain ⟨hck, _⟩ := hkey G.S w key _ _ hkr hkw
        have hzv := run_zero_lay hlay hle w
        have fin : ∀ (r : Option τ.I) (v : Value), (∃ us, RepC G.S w τ (r.getD z) us ∧ wrapV τ.isAgg us v) → Run Γ (lookPr o.dst τ z ok r) L L' rs3 ws →
            (Instr.lookup t (a.eval m) (a.eval kx) ok).run P w = .ok (if ok then .tuple #[v, .bool r.isSome] else v) w → o.wp P a w K Q := by
          intro r v hv h4 hrun
          unfold lookPr at h4
          cases ok with
          | true =>
            refine wp_value (w' := w) (v := .tuple #[v, .bool r.isSome]) ?_ (hK _ _ _ (putD_ok h4 ha hn ⟨[v, .bool r.isSome], rfl, .cons hv (.cons (dv_bool _) .nil)⟩))
            simp [execOp, ho, hrun]
          | false =>
            refine wp_value (w' := w) (v := v) ?_ (hK _ _ _ (putD_ok h4 ha hn hv))
            simp [execOp, ho, hrun]
        rcases hcase with ⟨e1, rfl⟩ | ⟨b, es, cl, e1, e2, e3⟩
        · refine fin none ei.zero ⟨_, hzr, hzw⟩ h3 ?_
          have hfk : (Instr.findKey kt (a.eval kx) []).run P w = .ok none w := by
            simp [Instr.findKey, run_underlying huk, Instr.findNow]
          simp [Instr.lookup, e1, run_underlying hut, hck, hfk, hzv, mapGet]
        · rcases find_ok hkey huk hkr hkw e3 with ⟨f1, f2, _⟩ | ⟨i, e', v, f1, f2, f3, f4, _⟩
          · rw [f1] at h3
            refine fin none ei.zero ⟨_, hzr, hzw⟩ h3 ?_
            simp [Instr.lookup, e1, run_underlying hut, MapKept.run_getObj_map e2, hck, f2, hzv]
          · rw [f1] at h3
            refine fin (some v) e'.val f4 h3 ?_
            simp [Instr.lookup, e1, run_underlying hut, MapKept.run_getObj_map e2, hck, f2]
      · cases h2
    · cases h2
  · cases h

theorem op_mapUpdate (hlay : LayOK P lay) {t : TypeId} {m kx x : Operand} (ho : o.op = .mapUpdate t m kx x) (h : Run Γ (opPr lay o) L L' rs ws) (ha : Abs E G L a w) : OpOK P E L' o a w := by
  intro K Q hK
  simp only [opPr, ho] at h
  cases hdst : o.dst with
  | some _ => rw [hdst] at h; cases h
  | none =>
    rw [hdst] at h
    simp only at h
    split at h
    · rename_i κ τ ei hm
      obtain ⟨kt, et, d, hut, huk, hkey, hle, hty⟩ := mapT_ok hlay hm
      obtain ⟨md, rs1, h1, hmd⟩ := evO_ok h ha
      obtain ⟨kd, rs2, h2, hkd⟩ := evO_ok h1 ha
      obtain ⟨xd, rs3, h3, hxd⟩ := evO_ok h2 ha
      split at h3
      · rename_i key hk
        obtain ⟨val, G1, L1, rs4, ws4, h4, a1, hvr, hvw⟩ := sealTy_ok2 h3 ha hxd
        have hkr : RepC G1.S w κ key _ := RepC.mono a1.keep (asTy_okV hk hkd)
        have hkw := asTy_wrap hk hkd
        replace hmd := a1.dv hmd
        have ha1 := a1.abs
        split at h4
        · rename_i id g
          obtain ⟨_, cc, hcc, _, hpp⟩ := DV_one rfl hmd (by simp) (by simp) (by simp)
          cases h4 with
          | rd h4 =>
            revert h4
            dsimp only
            split
            · rename_i g' κ' τ' xs hl
              intro h4
              split at h4
              · rename_i e
                cases e
                cases h4 with
                | gd hb h4 =>
                  have hg := beq_nat hb
                  subst hg
                  rw [hcc] at hl
                  cases hl
                  cases h4 with
                  | wr h4 =>
                    cases h4
                    have hev : a.eval m = .map (some (G1.blk id)) := hpp rfl
                    obtain ⟨es, cl, e2, e3⟩ := ha1.heap.obj id _ hcc
                    obtain ⟨hck, _⟩ := hkey G1.S w key _ _ hkr hkw
                    -- the world behind
                    have fin : ∀ (es' : Array MapEntry) (cl' : Nat) (w1 : World), w1 = { w with heap := w.heap.setIfInBounds (G1.blk id) (.map es' cl') } → (Instr.mapUpdate t (a.eval m) (a.eval kx) (a.eval x)).run P w = .ok () w1 →
                        EntRep κ.isAgg τ.isAgg (RepC G1.S w κ) (RepC G1.S w τ) (mapPut κ.beq xs key val) es'.toList → o.wp P a w K Q := by
                      intro es' cl' w1 hw1 hrun hent
                      have hlt2 : G1.blk id < w.heap.size := (Array.getElem?_eq_some_iff.1 e2).1
                      have hown : ownB G1 L1 id = some (G1.blk id) := ownB_some hcc
                      have hgr : w.grownBy w1 (some (G1.blk id)) := by
                        rw [hw1]
                        refine ⟨rfl, rfl, rfl, by simp, fun k _ hk => ?_⟩
                        show (w.heap.setIfInBounds (G1.blk id) _)[k]? = _
                        rw [Array.getElem?_setIfInBounds_ne (fun e => hk (by rw [e]))]
                      have hob : ∀ j, (upd L1 (.obj id) (.map g κ τ (mapPut κ.beq xs key val))) (.obj j) = if j = id then some (.map g κ τ (mapPut κ.beq xs key val)) else L1 (.obj j) := by intro j; simp [upd]
                      have habs : Abs E G1 (upd L1 (.obj id) (.map g κ τ (mapPut κ.beq xs key val))) a w1 := by
                        refine (Abs.change ha1 id (G1 := G1) (L1 := upd L1 (.obj id) (.map g κ τ (mapPut κ.beq xs key val))) hgr ?_ rfl ?_ ?_ ?_ ?_ ?_ ?_ ?_ ?_).1
                        · intro k hk
                          cases hk
                          have h1 := ha1.heap.own id _ hown
                          exact ⟨h1.1, h1.2, fun j hj h => ha1.heap.apart j id _ hj h hown⟩
                        · intro j hj; exact ⟨by rw [hob, if_neg hj], rfl, rfl⟩
                        · intro j hj k o; simp [upd]
                        · intro m; simp [upd]
                        · intro c hc
                          rw [hcc] at hc
                          cases hc
                          exact ⟨.map g κ τ (mapPut κ.beq xs key val), by rw [hob, if_pos rfl], Nat.le_refl _, fun _ => ⟨trivial, rfl, rfl⟩⟩
                        · intro hs hk off d k m h1 h2; rw [hob, if_pos rfl] at h2; cases h2
                        · intro _ hk d h1
                          rw [hob, if_pos rfl] at h1
                          cases h1
                          refine ⟨es', cl', ?_, hent.mono (fun _ _ h => RepC.mono hk h) fun _ _ h => RepC.mono hk h⟩
                          rw [hw1]
                          show (w.heap.setIfInBounds (G1.blk id) _)[G1.blk id]? = _
                          rw [Array.getElem?_setIfInBounds_self_of_lt hlt2]
                        · intro k off c h1
                          obtain ⟨c', h2, h3⟩ := ha1.heap.cgen id k off c (by simpa [upd] using h1)
                          rw [hcc] at h2
                          cases h2
                          exact ⟨.map g κ τ (mapPut κ.beq xs key val), by rw [hob, if_pos rfl], h3⟩
                        · intro b hb'
                          have : ownB G1 (upd L1 (.obj id) (.map g κ τ (mapPut κ.beq xs key val))) id = some (G1.blk id) := ownB_some (c := .map g κ τ (mapPut κ.beq xs key val)) (by rw [hob, if_pos rfl])
                          rw [this] at hb'
                          cases hb'
                          have h1 := ha1.heap.own id _ hown
                          exact ⟨h1.1, h1.2, fun j hj h => ha1.heap.apart j id _ hj h hown⟩
                      refine wp_skip' (w' := w1) ?_ hdst (hK _ _ _ habs)
                      simp [execOp, ho, hrun]
                    rcases find_ok hkey huk hkr hkw e3 with ⟨f1, f2, f3, _⟩ | ⟨i, e', v, f1, f2, f3, f4, f5, f6, _⟩
                    · refine fin (es.push { key := a.eval kx, val := a.eval x, born := cl }) (cl + 1) _ rfl ?_ ?_
                      · rw [hev]
                        simp [Instr.mapUpdate, run_underlying hut, MapKept.run_getObj_map e2, hck, f2, MapKept.run_setObj_map _ e2]
                      · rw [f3, Array.toList_push]
                        exact e3.push ⟨_, hkr, hkw⟩ ⟨_, hvr, hvw⟩
                    · refine fin (es.modify i fun e => { e with key := a.eval kx, val := a.eval x }) cl _ rfl ?_ ?_
                      · have hj : es[i]? = some e' := by simpa using f3
                        have hks : (Instr.keyThatStays e'.key (a.eval kx)).run P w = .ok (a.eval kx) w := by simp [Instr.keyThatStays, f5]
                        rw [hev]
                        simp [Instr.mapUpdate, run_underlying hut, MapKept.run_getObj_map e2, hck, f2, hj, hks, MapKept.run_setObj_map _ e2]
                      · rw [Array.toList_modify]
                        exact f6 val _ rfl ⟨_, hvr, hvw⟩
              · cases h4
            · intro h4; cases h4
        · cases h4
      · cases h3
    · cases h

end
end Go.Proofs.YtllhidkadhoipaaDoor.Ab
