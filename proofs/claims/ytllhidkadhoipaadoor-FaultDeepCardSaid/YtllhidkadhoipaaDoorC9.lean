/- Each operation of the model does what its abstract one does: reading, writing, places, numbers, texts. For every program whose types are as told. -/
import Derived.Test.YtllhidkadhoipaaDoorC8
namespace Go.Proofs.YtllhidkadhoipaaDoor.Ab
open Go Go.RowKit
set_option linter.unusedSimpArgs false
set_option linter.unusedVariables false
set_option linter.unusedSectionVars false

section
variable {P : Program} {Γ : FuncId → List D → D → Prop} {E : Env} {G : Gh} {L L' : Mem} {a : Act} {w : World} {rs ws : List Loc} {lay : Lay} {o : Oper}

theorem beq_nat {a b : Nat} (h : Nat.beq a b = true) : a = b := Nat.eq_of_beq_eq_true h

theorem ptr_at {id g off n0 : Nat} {v : Value} (hd : DC1 G L w (.ptr id g off) v) (ho : L (.obj id) = some (.box g n0)) : v = .pointer (some ⟨G.blk id, off, none⟩) := by
  obtain ⟨_, c, hc, _, hp⟩ := hd
  rw [ho] at hc
  cases hc
  exact hp rfl

theorem op_load (hlay : LayOK P lay) {t : TypeId} {x : Operand} (ho : o.op = .load t x) (h : Run Γ (opPr lay o) L L' rs ws) (ha : Abs E G L a w) (hn : ∀ n, o.dst = some n → n < E.N) : OpOK P E L' o a w := by
  intro K Q hK
  simp only [opPr, ho] at h
  obtain ⟨d, rs', h1, hd⟩ := evO_ok h ha
  cases hi : lay t with
  | none => rw [hi] at h1; cases h1
  | some i =>
    rw [hi] at h1
    simp only at h1
    have fin : ∀ {p : Addr} {v : Value}, a.eval x = .pointer (some p) → (loadVar t p).run P w = .ok v w → Abs E G L' (a.put o.dst v) w → o.wp P a w K Q := by
      intro p v hp hl h2
      refine wp_value (w' := w) (v := v) ?_ (hK _ _ _ h2)
      simp [execOp, ho, Instr.loadAt, hp, Instr.sureAddr, hl]
    split at h1
    · rename_i id g off
      have hd1 := DV_one rfl hd (by simp) (by simp) (by simp)
      cases h1 with
      | rd h1 =>
        revert h1
        dsimp only
        split
        · rename_i g' n0 hl
          intro h1
          cases h1 with
          | gd hb h1 =>
            have := beq_nat hb
            subst this
            obtain ⟨ds, rs2, h2, hlen, hcells⟩ := rdCells_ok h1
            obtain ⟨vs, hvs, hmem⟩ := ha.heap.cells hl ds off hcells
            cases hmk : mkD (isAggD i.desc) ds with
            | none => rw [hmk] at h2; cases h2
            | some d' =>
              obtain ⟨v, hv, hw⟩ := run_loadVar_lay hlay hi (x := ⟨G.blk id, off, none⟩) (vs := vs) (by rw [hvs.length, hlen]) (fun j u hj => by rw [add_none]; exact hmem j u hj) (hvs.plain (mkD_solid hmk))
              exact fin (ptr_at hd1 hl) hv (putO_ok h2 ha hn fun d' hd' => mkD_ok hd' hvs hw)
        · intro h1; cases h1
    · rename_i id g n off
      have hd1 := DV_one rfl hd (by simp) (by simp) (by simp)
      cases h1 with
      | rd h1 =>
        revert h1
        dsimp only
        split
        · rename_i g' e τ xs hl
          intro h1
          cases h1 with
          | gd hb h1 =>
            have := beq_nat hb
            subst this
            obtain ⟨_, p, ds, hv, hr, hc⟩ := eptr_ok ha.heap hd1 (.inl ⟨_, hl⟩)
            obtain ⟨v, k1, k2⟩ := loadPart_ok hlay h1 hi ha hn hr hc
            exact fin hv k1 k2
        · rename_i g' τ xs hl
          intro h1
          cases h1 with
          | gd hb h1 =>
            have := beq_nat hb
            subst this
            obtain ⟨_, p, ds, hv, hr, hc⟩ := eptr_ok ha.heap hd1 (.inr hl)
            obtain ⟨v, k1, k2⟩ := loadPart_ok hlay h1 hi ha hn hr hc
            exact fin hv k1 k2
        · intro h1; cases h1
    · rename_i τ y off
      obtain ⟨p, ds, hv, hr, hc⟩ := DV_one rfl hd (by simp) (by simp) (by simp)
      obtain ⟨v, k1, k2⟩ := loadPart_ok hlay h1 hi ha hn hr (fun j u hj => (hc j u hj).2)
      exact fin hv k1 k2
    · cases h1

theorem take_splice {α : Type} (cur l : List α) (A s N : Nat) (hl : l.length = s) (h : A + s ≤ N) (h2 : N ≤ cur.length) :
    (cur.take A ++ l ++ cur.drop (A + s)).take N = (cur.take N).take A ++ l ++ (cur.take N).drop (A + s) := by
  have e : (cur.take A ++ l).length = A + s := by simp [hl]; omega
  rw [List.take_append, e, List.take_of_length_le (show (cur.take A ++ l).length ≤ N by omega), List.take_take, Nat.min_eq_left (by omega), List.drop_take]

theorem RepL.getAt {α : Type} {R : α → List Value → Prop} {n : Nat} (h : ∀ x cs, R x cs → cs.length = n) {xs : List α} {cs : List Value} (i : Nat) (x : α) (hr : RepL R xs cs) (hi : xs[i]? = some x) : R x ((cs.drop (i * n)).take n) := by
  obtain ⟨c, h1, h2⟩ := RepL.get h i x hr hi
  have : (cs.drop (i * n)).take n = c := by
    apply List.ext_getElem?
    intro j
    rw [List.getElem?_take]
    split
    · rename_i hj; rw [List.getElem?_drop]; exact h2 j hj
    · rename_i hj; have := h x c h1; exact (List.getElem?_eq_none (by omega)).symm
  rw [this]
  exact h1

theorem setPart_ok {τ : Ty} {x z : τ.I} {off sz : Nat} {d : D} {vs ds : List Value} (h : setPart τ x off sz d = some z) (hr : RepC G.S w τ x ds) (hd : DCs G L w d.cells vs) (hT : ∀ z, d.asTy τ = some z → RepC G.S w τ z vs)
    (hl : vs.length = sz) (hpos : 0 < sz) : RepC G.S w τ z (ds.take off ++ vs ++ ds.drop (off + sz)) ∧ off + sz ≤ ds.length := by
  have hlen := RepC.length hr
  unfold setPart at h
  split at h
  · rename_i hb
    simp only [Bool.and_eq_true, Nat.beq_eq] at hb
    obtain ⟨rfl, h2⟩ := hb
    refine ⟨?_, by omega⟩
    rw [List.take_zero, List.nil_append, List.drop_eq_nil_of_le (by omega), List.append_nil]
    exact hT z h
  · split at h
    · rename_i y hy
      cases h
      have he := expand_ok (L := L) (G := G) hr
      obtain ⟨c1, c2, e, k1, k2⟩ := asm_ok hy (((he.take off).append hd).append (he.drop (off + sz)))
      cases c2 with
      | cons _ _ => exact k2.elim
      | nil =>
        rw [List.append_nil] at e
        subst e
        refine ⟨k1, ?_⟩
        have := RepC.length k1
        simp only [List.length_append, List.length_take, List.length_drop] at this
        omega
    · cases h

theorem splice_nest {α : Type} (cs l : List α) (B s off k : Nat) (h1 : off + k ≤ s) (h2 : B + s ≤ cs.length) :
    cs.take B ++ (((cs.drop B).take s).take off ++ l ++ ((cs.drop B).take s).drop (off + k)) ++ cs.drop (B + s) = cs.take (B + off) ++ l ++ cs.drop (B + off + k) := by
  have e1 : cs.take (B + off) = cs.take B ++ (cs.drop B).take off := List.take_add
  have e2 : ((cs.drop B).take s).take off = (cs.drop B).take off := by rw [List.take_take, Nat.min_eq_left (by omega)]
  have e3 : ((cs.drop B).take s).drop (off + k) = ((cs.drop (B + off + k)).take (s - (off + k))) := by rw [List.drop_take, List.drop_drop]; congr 2; omega
  have e4 : cs.drop (B + s) = (cs.drop (B + off + k)).drop (s - (off + k)) := by rw [List.drop_drop]; congr 1; omega
  rw [e1, e2, e3, e4]
  simp only [List.append_assoc, List.take_append_drop]

theorem op_store (hlay : LayOK P lay) {t : TypeId} {x y : Operand} (ho : o.op = .store t x y) (h : Run Γ (opPr lay o) L L' rs ws) (ha : Abs E G L a w) : OpOK P E L' o a w := by
  intro K Q hK
  simp only [opPr, ho] at h
  cases hdst : o.dst with
  | some _ => rw [hdst] at h; cases h
  | none =>
    rw [hdst] at h
    obtain ⟨p, rs1, h1, hp⟩ := evO_ok h ha
    obtain ⟨d, rs2, h2, hd⟩ := evO_ok h1 ha
    cases hi : lay t with
    | none => rw [hi] at h2; cases h2
    | some i =>
      rw [hi] at h2
      simp only at h2
      have fin : ∀ {p : Addr} {w' : World} {G' : Gh}, a.eval x = .pointer (some p) → (a.eval y).cells.size = i.sz → (storeCells p (a.eval y).cells.toList).run P w = .ok () w' → Abs E G' L' a w' → o.wp P a w K Q := by
        intro p w' G' hp hsz hl h3
        refine wp_skip' (w' := w') ?_ hdst (hK _ _ _ h3)
        simp [execOp, ho, Instr.storeAt, hp, Instr.sureAddr, storeVar, run_sizeOf_lay hlay hi, hsz, hl]
      split at h2
      · rename_i id g off
        have hp1 := DV_one rfl hp (by simp) (by simp) (by simp)
        cases h2 with
        | rd h2 =>
          revert h2
          dsimp only
          split
          · rename_i g' n0 hl
            intro h2
            cases h2 with
            | gd hb h2 =>
              simp only [Bool.and_eq_true, List.all_eq_true] at hb
              obtain ⟨⟨⟨⟨hsol, hund⟩, hpos⟩, hg⟩, hsz⟩ := hb
              have hg := beq_nat hg
              have hsz := beq_nat hsz
              have hpos : 0 < i.sz := Nat.le_of_ble_eq_true hpos
              subst hg
              obtain ⟨ds, rs3, h3, hlen, hcells⟩ := rdCells_ok h2
              obtain ⟨ws', h4⟩ := wrCells_ok h3
              cases h4
              have hdc := solid_cells hsol hd
              have hlv := hdc.length
              obtain ⟨vs, hvs, hmem⟩ := ha.heap.cells hl ds off hcells
              obtain ⟨cur, te, hcur, _⟩ := ha.heap.box id g n0 hl
              have hfit : off + (a.eval y).cells.toList.length ≤ cur.size := by
                have hlast : vs.length = (a.eval y).cells.toList.length := by rw [hvs.length, hlen, hlv, hsz]
                have hlt : vs.length - 1 < vs.length := by omega
                have hc := hmem (vs.length - 1) vs[vs.length - 1] (by simp [hlt])
                rw [cell_of_row _ _ _ _ _ _ hcur] at hc
                have := (Array.getElem?_eq_some_iff.1 hc).1
                omega
              have hund' : ∀ u ∈ (a.eval y).cells.toList, u.oneCell' = true := hdc.plain fun z hz e => by
                subst e
                exact absurd (hund _ hz) (by simp [D.solid])
              have hst := run_storeCells_at P (G.blk id) off te (a.eval y).cells.toList 0 cur w hcur (by omega) hund'
              simp only [Nat.add_zero] at hst
              refine fin (ptr_at hp1 hl) (by rw [← Array.length_toList, hlv, hsz]) hst (ha.updBox hl hcur hdc (by have hfit' := hfit; generalize (a.eval y).cells.toList = l at hfit' ⊢; simp; omega) fun j => ?_)
              rw [List.getElem?_toArray]
              generalize (a.eval y).cells.toList = l at hfit ⊢
              have hcl : cur.toList.length = cur.size := by simp
              by_cases h1 : j < off
              · rw [if_neg (by omega), List.append_assoc, List.getElem?_append_left (by simp; omega), List.getElem?_take_of_lt h1]
                simp
              · by_cases h2 : j < off + l.length
                · rw [if_pos ⟨by omega, h2⟩, List.getElem?_append_left (by simp; omega), List.getElem?_append_right (by simp; omega)]
                  congr 1
                  simp; omega
                · rw [if_neg (by omega), List.getElem?_append_right (by simp; omega), List.getElem?_drop]
                  rw [← Array.getElem?_toList]
                  congr 1
                  simp; omega
          · intro h2; cases h2
      · rename_i id g n off
        have hp1 := DV_one rfl hp (by simp) (by simp) (by simp)
        obtain ⟨d', G1, L1, rs3, ws3, h3, a1, hd'⟩ := sealD_ok h2 ha hd
        have hp2 := hp1.mono a1.step a1.keep
        cases h3 with
        | rd h3 =>
          revert h3
          dsimp only
          split
          · rename_i g' e τ xs hl
            intro h3
            cases h3 with
            | gd hb h3 =>
              simp only [Bool.and_eq_true] at hb
              obtain ⟨⟨⟨hsol, hpos⟩, hg⟩, hsz⟩ := hb
              have hg := beq_nat hg
              have hsz := beq_nat hsz
              have hpos : 0 < i.sz := Nat.le_of_ble_eq_true hpos
              subst hg
              revert h3
              split
              · rename_i z hz
                intro h3
                cases h3 with
                | wr h3 =>
                  cases h3
                  have hdc := solid_cells hsol hd'
                  have hlen : (a.eval y).cells.toList.length = i.sz := by rw [hdc.length, hsz]
                  obtain ⟨_, c, hc, _, hpp⟩ := hp2
                  rw [hl] at hc
                  cases hc
                  obtain ⟨hnl, b, cap, hvv, hpv⟩ := hpp rfl
                  obtain ⟨cs, hown, hrl⟩ := a1.abs.heap.vec id g e τ xs hl
                  have hold := RepL.getAt (fun _ _ h => RepC.length h) n (xs.getD n τ.dflt) hrl (by simp [List.getD, List.getElem?_eq_getElem hnl])
                  obtain ⟨hnew, hfit⟩ := setPart_ok hz hold hdc (fun z hz => asTy_okV hz hd') hlen hpos
                  have holdlen := RepC.length hold
                  -- the block
                  have hcase := hown.2
                  rw [hvv] at hcase
                  rcases hcase with ⟨h0, _⟩ | ⟨bb, cap', cur, h0, hb0, hblk, hc1, hc2, hc3, hc4⟩
                  · cases h0
                  · cases h0
                    have hcsl := hown.1
                    have hle : n * τ.sz + τ.sz ≤ xs.length * τ.sz := by rw [← Nat.succ_mul]; exact Nat.mul_le_mul_right _ hnl
                    have hle2 : xs.length * τ.sz ≤ cur.size := by rw [hc3]; exact Nat.mul_le_mul_right _ hc1
                    rw [holdlen] at hfit
                    have hplain : ∀ u ∈ (a.eval y).cells.toList, u.oneCell' = true := fun u hu => RepC.plain hnew u (by simp [hu])
                    have hst := run_storeCells_at P b (n * τ.sz + off) e (a.eval y).cells.toList 0 cur w hblk (by omega) hplain
                    simp only [Nat.add_zero] at hst
                    have hset := RepL.set (fun _ _ h => RepC.length h) n z _ hrl hnew hnl
                    rw [splice_nest cs _ (n * τ.sz) τ.sz off i.sz hfit (by omega)] at hset
                    have hcur2 : (List.take (n * τ.sz + off) cur.toList ++ (a.eval y).cells.toList ++ List.drop (n * τ.sz + off + (a.eval y).cells.toList.length) cur.toList).toArray.size = cap * τ.sz := by
                      simp only [List.size_toArray, List.length_append, List.length_take, List.length_drop, Array.length_toList, hlen]
                      omega
                    have hgr : w.grownBy (w.setRow b (List.take (n * τ.sz + off) cur.toList ++ (a.eval y).cells.toList ++ List.drop (n * τ.sz + off + (a.eval y).cells.toList.length) cur.toList).toArray) (G1.vv id).ownBlock :=
                      ⟨rfl, rfl, rfl, by simp, fun k _ hk => setRow_other w b k _ fun e' => hk (by rw [hvv, e']; rfl)⟩
                    refine fin (p := ⟨b, n * τ.sz + off, none⟩) (G' := G1) (by rw [hpv]) (by rw [← Array.length_toList, hlen]) hst ?_
                    refine a1.abs.updVec hl hgr (cs := cs.take (n * τ.sz + off) ++ (a.eval y).cells.toList ++ cs.drop (n * τ.sz + off + i.sz)) ⟨?_, .inr ⟨b, cap, _, by rw [hvv]; simp, hb0, setRow_heap w b cur _ e (0, 0) hblk, by simpa using hc1, hc2, hcur2, ?_⟩⟩ (fun hk => hset.mono fun _ _ h => RepC.mono hk h) (by simp)
                    · simp only [List.length_append, List.length_take, List.length_drop, hcsl, hlen, List.length_set]
                      omega
                    · simp only [List.length_set]
                      rw [← hc4, hlen]
                      exact take_splice _ _ _ _ _ hlen (by omega) (by simpa using hle2)
              · intro h3; cases h3
          · intro h3; cases h3
      · cases h2
end
end Go.Proofs.YtllhidkadhoipaaDoor.Ab
