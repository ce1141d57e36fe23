/- Each operation of the model does what its abstract one does: sealing, loading, storing, new boxes and slices. For every program whose types are as told. -/
import Derived.Test.YtllhidkadhoipaaDoorC4
namespace Go.Proofs.YtllhidkadhoipaaDoor.Ab
open Go Go.RowKit

section
variable {P : Program} {Γ : FuncId → List D → D → Prop} {E : Env} {G : Gh} {L L' : Mem} {a : Act} {w : World} {rs ws : List Loc}

theorem After.dv {G1 : Gh} {L1 : Mem} (h : After E G L a w G1 L1) {d : D} {v : Value} (hd : DV G L w d v) : DV G1 L1 w d v := hd.mono h.step h.keep
theorem After.dcs {G1 : Gh} {L1 : Mem} (h : After E G L a w G1 L1) {d : List D} {v} (hd : DCs G L w d v) : DCs G1 L1 w d v := hd.mono h.step h.keep

theorem sealCells_ok : ∀ {ds : List D} {k : List D → Pr} {vs : List Value} {G : Gh} {L : Mem} {rs ws : List Loc}, Run Γ (sealCells ds k) L L' rs ws → Abs E G L a w → DCs G L w ds vs →
    ∃ ds' G1 L1 rs' ws', Run Γ (k ds') L1 L' rs' ws' ∧ After E G L a w G1 L1 ∧ DCs G1 L1 w ds' vs
  | [], _, [], _, _, _, _, h, ha, _ => ⟨[], _, _, _, _, h, After.refl ha, trivial⟩
  | d :: ds, k, v :: vs, _, _, _, _, h, ha, hd => by
    obtain ⟨d', G1, L1, rs1, ws1, h1, a1, k1, _⟩ := sealCell_ok h ha hd.1
    obtain ⟨ds', G2, L2, rs2, ws2, h2, a2, k2⟩ := sealCells_ok h1 a1.abs (hd.2.mono a1.step a1.keep)
    exact ⟨d' :: ds', G2, L2, rs2, ws2, h2, a1.trans a2, k1.mono a2.step a2.keep, k2⟩
  | [], _, _ :: _, _, _, _, _, _, _, hd => hd.elim
  | _ :: _, _, [], _, _, _, _, _, _, hd => hd.elim

theorem sealD_ok {d : D} {k : D → Pr} {v : Value} (h : Run Γ (sealD d k) L L' rs ws) (ha : Abs E G L a w) (hd : DV G L w d v) :
    ∃ d' G1 L1 rs' ws', Run Γ (k d') L1 L' rs' ws' ∧ After E G L a w G1 L1 ∧ DV G1 L1 w d' v := by
  cases d with
  | agg ds =>
    obtain ⟨cs, h1, h2⟩ := hd
    obtain ⟨ds', G1, L1, rs1, ws1, k1, k2, k3⟩ := sealCells_ok h ha h1
    exact ⟨_, G1, L1, rs1, ws1, k1, k2, cs, k3, h2⟩
  | vec id g =>
    obtain ⟨cs, ⟨v', rfl, h1⟩, h2⟩ := hd
    obtain ⟨d', G1, L1, rs1, ws1, k1, k2, k3, k4⟩ := sealCell_ok h ha h1
    simp only [D.isAgg, wrapV, Bool.false_eq_true, if_false, List.cons.injEq, and_true] at h2
    obtain ⟨rfl, h3⟩ := h2
    exact ⟨_, G1, L1, rs1, ws1, k1, k2, k3.dw k4⟩
  | mp id g =>
    obtain ⟨cs, ⟨v', rfl, h1⟩, h2⟩ := hd
    obtain ⟨d', G1, L1, rs1, ws1, k1, k2, k3, k4⟩ := sealCell_ok h ha h1
    simp only [D.isAgg, wrapV, Bool.false_eq_true, if_false, List.cons.injEq, and_true] at h2
    obtain ⟨rfl, h3⟩ := h2
    exact ⟨_, G1, L1, rs1, ws1, k1, k2, k3.dw k4⟩
  | tup ds => exact ⟨_, G, L, rs, ws, h, After.refl ha, hd⟩
  | _ => exact ⟨_, G, L, rs, ws, h, After.refl ha, hd⟩

theorem sealDs_ok : ∀ {ds : List D} {k : List D → Pr} {vs : List Value} {G : Gh} {L : Mem} {rs ws : List Loc}, Run Γ (sealDs ds k) L L' rs ws → Abs E G L a w → All2 (DV G L w) ds vs →
    ∃ ds' G1 L1 rs' ws', Run Γ (k ds') L1 L' rs' ws' ∧ After E G L a w G1 L1 ∧ All2 (DV G1 L1 w) ds' vs
  | [], _, _, _, _, _, _, h, ha, .nil => ⟨[], _, _, _, _, h, After.refl ha, .nil⟩
  | d :: ds, k, _, _, _, _, _, h, ha, .cons (b := v) (m := vs) hd hds => by
    obtain ⟨d', G1, L1, rs1, ws1, h1, a1, k1⟩ := sealD_ok h ha hd
    obtain ⟨ds', G2, L2, rs2, ws2, h2, a2, k2⟩ := sealDs_ok h1 a1.abs (hds.mono fun _ _ h => a1.dv h)
    exact ⟨d' :: ds', G2, L2, rs2, ws2, h2, a1.trans a2, .cons (a2.dv k1) k2⟩

theorem asTy_okV {τ : Ty} {d : D} {x : τ.I} {v : Value} (h : d.asTy τ = some x) (hd : DV G L w d v) : RepC G.S w τ x v.cells.toList := by
  cases d with
  | tup ds => simp [D.asTy] at h
  | _ => exact asTy_ok (L := L) h hd

theorem sealTy_ok {τ : Ty} {d : D} {k : τ.I → Pr} {v : Value} (h : Run Γ (sealTy τ d k) L L' rs ws) (ha : Abs E G L a w) (hd : DV G L w d v) :
    ∃ x G1 L1 rs' ws', Run Γ (k x) L1 L' rs' ws' ∧ After E G L a w G1 L1 ∧ RepC G1.S w τ x v.cells.toList := by
  obtain ⟨d', G1, L1, rs1, ws1, h1, a1, k1⟩ := sealD_ok h ha hd
  cases hx : d'.asTy τ with
  | none => rw [hx] at h1; cases h1
  | some x => rw [hx] at h1; exact ⟨x, G1, L1, rs1, ws1, h1, a1, asTy_okV hx k1⟩

theorem sealTys_ok {τ : Ty} : ∀ {ds : List D} {k : List τ.I → Pr} {vs : List Value} {G : Gh} {L : Mem} {rs ws : List Loc}, Run Γ (sealTys τ ds k) L L' rs ws → Abs E G L a w → All2 (DV G L w) ds vs →
    ∃ xs G1 L1 rs' ws', Run Γ (k xs) L1 L' rs' ws' ∧ After E G L a w G1 L1 ∧ xs.length = ds.length ∧ RepL (RepC G1.S w τ) xs (vs.flatMap fun v => v.cells.toList)
  | [], _, _, _, _, _, _, h, ha, .nil => ⟨[], _, _, _, _, h, After.refl ha, rfl, rfl⟩
  | d :: ds, k, _, _, _, _, _, h, ha, .cons (b := v) (m := vs) hd hds => by
    obtain ⟨x, G1, L1, rs1, ws1, h1, a1, k1⟩ := sealTy_ok h ha hd
    obtain ⟨xs, G2, L2, rs2, ws2, h2, a2, k2, k3⟩ := sealTys_ok h1 a1.abs (hds.mono fun _ _ h => a1.dv h)
    exact ⟨x :: xs, G2, L2, rs2, ws2, h2, a1.trans a2, by simp [k2], _, _, rfl, RepC.mono a2.keep k1, k3⟩

/-! ### The ends of operations -/

theorem wp_value {o : Oper} {v : Value} {w' : World} {K : Act → World → Prop} {Q : Exit → Act → World → Prop} (h : (execOp a.eval o).run P w = .ok (.value v) w') (hk : K (a.put o.dst v) w') : o.wp P a w K Q := by
  unfold Oper.wp; rw [h]; exact hk

theorem wp_skip' {o : Oper} {w' : World} {K : Act → World → Prop} {Q : Exit → Act → World → Prop} (h : (execOp a.eval o).run P w = .ok .skip w') (hd : o.dst = none) (hk : K a w') : o.wp P a w K Q := by
  unfold Oper.wp; rw [h]; show K (a.put o.dst undef) w'; rw [hd]; exact hk

theorem putD_ok {dst : Option Tmp} {d : D} {v : Value} (h : Run Γ (putD dst d) L L' rs ws) (ha : Abs E G L a w) (hn : ∀ n, dst = some n → n < E.N) (hd : DV G L w d v) : Abs E G L' (a.put dst v) w := by
  cases dst with
  | none => cases h; exact ha
  | some n =>
    cases h with
    | wr h => cases h; exact ha.put (hn n rfl) hd

theorem putO_ok {dst : Option Tmp} {d : Option D} (h : Run Γ (putO dst d) L L' rs ws) (ha : Abs E G L a w) (hn : ∀ n, dst = some n → n < E.N) {v : Value} (hd : ∀ x, d = some x → DV G L w x v) : Abs E G L' (a.put dst v) w := by
  cases d with
  | none => cases h
  | some d => exact putD_ok h ha hn (hd d rfl)

/-! ### Cells -/

theorem add_none (b o j : Nat) : (⟨b, o, none⟩ : Addr).add j = ⟨b, o + j, none⟩ := by unfold Addr.add; split <;> simp_all
theorem add_add (x : Addr) (i j : Nat) : (x.add i).add j = x.add (i + j) := by
  unfold Addr.add
  by_cases h1 : i = 0
  · subst h1; simp
  · by_cases h2 : j = 0
    · subst h2; simp
    · have h3 : i + j ≠ 0 := by omega
      simp [h1, h2, Nat.add_assoc]

theorem rdCells_ok : ∀ {n : Nat} {id g i : Nat} {k : List D → Pr} {rs : List Loc}, Run Γ (rdCells id g i n k) L L' rs ws →
    ∃ ds rs', Run Γ (k ds) L L' rs' ws ∧ ds.length = n ∧ ∀ j d, ds[j]? = some d → L (.cell id g (i + j)) = some (.d d)
  | 0, _, _, _, _, _, h => ⟨[], _, h, rfl, by simp⟩
  | n + 1, id, g, i, k, rs, h => by
    cases h with
    | rd h =>
      revert h
      cases hl : L (.cell id g i) with
      | none => intro h; cases h
      | some c =>
        cases c with
        | d d =>
          intro h
          obtain ⟨ds, rs', h1, h2, h3⟩ := rdCells_ok h
          refine ⟨d :: ds, rs', h1, by simp [h2], fun j d' hj => ?_⟩
          cases j with
          | zero => simp at hj; subst hj; exact hl
          | succ j => simp at hj; rw [← h3 j d' hj]; congr 2; omega
        | _ => intro h; cases h

/-- The cells of a box, out of memory. -/
theorem AbsH.cells {id g n0 : Nat} (h : AbsH E G L w) (ho : L (.obj id) = some (.box g n0)) : ∀ (ds : List D) (i : Nat), (∀ j d, ds[j]? = some d → L (.cell id g (i + j)) = some (.d d)) →
    ∃ vs, DCs G L w ds vs ∧ ∀ j u, vs[j]? = some u → w.cell? ⟨G.blk id, i + j, none⟩ = some u
  | [], _, _ => ⟨[], trivial, by simp⟩
  | d :: ds, i, hd => by
    obtain ⟨v, hv, h1⟩ := h.cell id i d g n0 (hd 0 d rfl) ho
    obtain ⟨vs, h2, h3⟩ := AbsH.cells h ho ds (i + 1) fun j d' hj => by
      have := hd (j + 1) d' hj
      rw [← this]; congr 2; omega
    refine ⟨v :: vs, ⟨h1, h2⟩, fun j u hj => ?_⟩
    cases j with
    | zero => simp at hj; subst hj; exact hv
    | succ j => simp at hj; rw [← h3 j u hj]; congr 2; omega

section
variable {lay : Lay} (hlay : LayOK P lay)
include hlay

theorem lay_info {t : TypeId} {i : LInfo} (h : lay t = some i) : ∃ x, P.info? t = some x ∧ x.zero = some i.zero ∧ x.size = i.sz ∧ x.bytes = i.bytes := by
  have := hlay.inf t i h
  cases hx : P.info? t with
  | none => rw [hx] at this; simp at this
  | some x => rw [hx] at this; simp at this; exact ⟨x, rfl, this.1, this.2.1, this.2.2⟩

theorem run_sizeOf_lay {t : TypeId} {i : LInfo} (h : lay t = some i) (w : World) : (sizeOf t).run P w = .ok i.sz w := by
  obtain ⟨x, h1, _, h2, _⟩ := lay_info hlay h
  simp [sizeOf, typeInfo, h1, h2]

theorem run_zero_lay {t : TypeId} {i : LInfo} (h : lay t = some i) (w : World) : (zeroValue t).run P w = .ok i.zero w := by
  obtain ⟨x, h1, h2, _, _⟩ := lay_info hlay h
  simp [zeroValue, typeInfo, h1, h2]

theorem run_isAgg_lay {t : TypeId} {i : LInfo} (h : lay t = some i) (w : World) : (isAgg t).run P w = .ok (isAggD i.desc) w := by
  have hu := hlay.und t i h
  unfold isAgg
  rw [Sem.run_bind, run_underlying hu w]
  cases i.desc <;> rfl

theorem lay_one {t : TypeId} {i : LInfo} (h : lay t = some i) (hA : isAggD i.desc = false) : i.sz = 1 := by
  have h1 := hlay.zok t i h
  rw [hA] at h1
  obtain ⟨h1, _⟩ := h1
  have h2 := hlay.zsz t i h
  rw [← h2, ← Array.length_toList, h1]
  rfl

/-- A variable's value. -/
theorem run_loadVar_lay {t : TypeId} {i : LInfo} (h : lay t = some i) {x : Addr} {vs : List Value} (hn : vs.length = i.sz) (hc : ∀ j u, vs[j]? = some u → w.cell? (x.add j) = some u) (h1 : ∀ u ∈ vs, u.oneCell' = true) :
    ∃ v, (loadVar t x).run P w = .ok v w ∧ wrapV (isAggD i.desc) vs v := by
  unfold loadVar
  cases hA : isAggD i.desc with
  | true =>
    refine ⟨.agg vs.toArray, ?_, by simp [wrapV]⟩
    rw [Sem.run_bind, run_isAgg_lay hlay h w, hA]
    have := run_loadCells_list (P := P) w x vs hc
    simp [run_sizeOf_lay hlay h, ← hn, this]
  | false =>
    have h1' := lay_one hlay h hA
    rw [h1'] at hn
    obtain ⟨v, rfl⟩ := List.length_eq_one_iff.1 hn
    refine ⟨v, ?_, by simp only [wrapV, Bool.false_eq_true, if_false, true_and]; exact h1 v (by simp)⟩
    have := hc 0 v rfl
    simp only [Addr.add, if_true] at this
    rw [Sem.run_bind, run_isAgg_lay hlay h w, hA]
    simp [this]

omit hlay in
theorem mkD_ok {agg : Bool} {ds : List D} {d : D} {vs : List Value} {v : Value} (h : mkD agg ds = some d) (hd : DCs G L w ds vs) (hw : wrapV agg vs v) : DV G L w d v := by
  unfold mkD at h
  cases hs : ds.all D.solid with
  | false => rw [hs] at h; cases h
  | true =>
    rw [hs, cond_true] at h
    split at h
    · cases h; exact ⟨vs, hd, hw⟩
    · rename_i d'
      cases hA : d'.isAgg with
      | true => rw [hA] at h; cases h
      | false =>
        rw [hA] at h
        cases h
        cases vs with
        | nil => exact hd.elim
        | cons u us =>
          cases us with
          | cons _ _ => exact hd.2.elim
          | nil =>
            obtain ⟨e, _⟩ := hw
            cases e
            exact hd.1.dw hA
    · cases h

omit hlay in
theorem mkD_solid {agg : Bool} {ds : List D} {d : D} (h : mkD agg ds = some d) : ∀ x ∈ ds, x ≠ .undef := by
  unfold mkD at h
  cases hs : ds.all D.solid with
  | false => rw [hs] at h; cases h
  | true =>
    intro x hx e
    subst e
    have := List.all_eq_true.1 hs _ hx
    cases this

omit hlay in
theorem comp_ok {S : Nat → Prop} {w : World} {σ : Ty} : ∀ {τ : Ty} {x : τ.I} {off : Nat} {y : σ.I} {cs : List Value}, comp σ τ x off = some y → RepC S w τ x cs →
    ∃ c1 c2 c3, cs = c1 ++ (c2 ++ c3) ∧ c1.length = off ∧ RepC S w σ y c2 := by
  have base : ∀ {τ : Ty} {x : τ.I} {off : Nat} {y : σ.I} {cs : List Value}, (if h : τ = σ then (bif Nat.beq off 0 then some (castTy h x) else none) else none) = some y → RepC S w τ x cs →
      ∃ c1 c2 c3, cs = c1 ++ (c2 ++ c3) ∧ c1.length = off ∧ RepC S w σ y c2 := by
    intro τ x off y cs h hr
    split at h
    · rename_i e
      cases hb : Nat.beq off 0 with
      | false => rw [hb] at h; cases h
      | true =>
        rw [hb] at h
        cases h
        exact ⟨[], cs, [], by simp, (Nat.eq_of_beq_eq_true hb).symm, castTy_ok e hr⟩
    · cases h
  intro τ
  induction τ with
  | pair a b iha ihb =>
    intro x off y cs h hr
    simp only [comp] at h
    split at h
    · rename_i e
      cases hb : Nat.beq off 0 with
      | false => rw [hb] at h; cases h
      | true =>
        rw [hb] at h
        cases h
        exact ⟨[], cs, [], by simp, (Nat.eq_of_beq_eq_true hb).symm, castTy_ok e hr⟩
    · obtain ⟨c, d, rfl, h1, h2⟩ := hr
      have hl := RepC.length h1
      cases hb : Nat.blt off a.sz with
      | true =>
        rw [hb, cond_true] at h
        obtain ⟨c1, c2, c3, rfl, k1, k2⟩ := iha h h1
        exact ⟨c1, c2, c3 ++ d, by simp, k1, k2⟩
      | false =>
        rw [hb, cond_false] at h
        obtain ⟨c1, c2, c3, rfl, k1, k2⟩ := ihb h h2
        refine ⟨c ++ c1, c2, c3, by simp, ?_, k2⟩
        have hge : ¬ off < a.sz := fun hlt => by rw [show Nat.blt off a.sz = true from Nat.ble_eq_true_of_le hlt] at hb; cases hb
        simp only [List.length_append]; omega
  | _ => intro x off y cs h hr; exact base (by simpa only [comp] using h) hr

/-- Data that lie in memory, or a part of them. -/
theorem loadPart_ok {dst : Option Tmp} {t : TypeId} {i : LInfo} {τ : Ty} {x : τ.I} {off : Nat} (h : Run Γ (loadPart dst i τ x off) L L' rs ws) (hi : lay t = some i) (ha : Abs E G L a w) (hn : ∀ n, dst = some n → n < E.N)
    {p : Addr} {ds : List Value} (hr : RepC G.S w τ x ds) (hc : ∀ j u, ds[j]? = some u → w.cell? (p.add j) = some u) :
    ∃ v, (loadVar t (p.add off)).run P w = .ok v w ∧ Abs E G L' (a.put dst v) w := by
  unfold loadPart at h
  revert h
  split
  · rename_i d hcd
    intro h
    unfold compOf at hcd
    split at hcd
    · rename_i σ hσ
      split at hcd
      · rename_i y hy
        cases hcd
        obtain ⟨c1, c2, c3, rfl, k1, k2⟩ := comp_ok hy hr
        obtain ⟨e1, e2⟩ := hlay.tys t i σ hi hσ
        obtain ⟨v, hv, hw⟩ := run_loadVar_lay hlay hi (x := p.add off) (vs := c2) (by rw [← e1]; exact RepC.length k2) (fun j u hj => by
          rw [add_add]
          refine hc (off + j) u ?_
          have hj2 : j < c2.length := (List.getElem?_eq_some_iff.1 hj).1
          rw [List.getElem?_append_right (by omega), List.getElem?_append_left (by omega), ← hj]
          congr 1
          omega) (RepC.plain k2)
        exact ⟨v, hv, putD_ok h ha hn ⟨c2, k2, by rw [D.isAgg, e2]; exact hw⟩⟩
      · cases hcd
    · cases hcd
  intro h
  cases hb : (Nat.beq off 0 && Nat.beq τ.sz i.sz && (τ.isAgg == isAggD i.desc)) with
  | true =>
    rw [hb, cond_true] at h
    simp only [Bool.and_eq_true, beq_iff_eq, Nat.beq_eq] at hb
    obtain ⟨⟨rfl, h2⟩, h3⟩ := hb
    obtain ⟨v, hv, hw⟩ := run_loadVar_lay hlay hi (x := p.add 0) (by rw [← h2]; exact RepC.length hr) (fun j u hj => by rw [add_add, Nat.zero_add]; exact hc j u hj) (RepC.plain hr)
    exact ⟨v, hv, putD_ok h ha hn ⟨ds, hr, by rw [D.isAgg, h3]; exact hw⟩⟩
  | false =>
    rw [hb, cond_false] at h
    cases hb2 : Nat.ble (off + i.sz) (expand τ x).length with
    | false => rw [hb2, cond_false] at h; cases h
    | true =>
      rw [hb2, cond_true] at h
      have hle := Nat.le_of_ble_eq_true hb2
      have he := expand_ok (L := L) (G := G) hr
      have hlen := he.length
      have he2 := (he.drop off).take i.sz
      obtain ⟨v, hv, hw⟩ := run_loadVar_lay hlay hi (x := p.add off) (vs := (ds.drop off).take i.sz) (by simp; omega) (fun j u hj => by
        rw [add_add]
        refine hc (off + j) u ?_
        rw [List.getElem?_take] at hj
        split at hj
        · simpa using hj
        · cases hj) (fun u hu => RepC.plain hr u (List.mem_of_mem_drop (List.mem_of_mem_take hu)))
      exact ⟨v, hv, putO_ok h ha hn fun d hd => mkD_ok hd he2 hw⟩

end

/-- The thing at a place of an own slice, or of one that was own. -/
theorem eptr_ok {id g n off : Nat} {v : Value} {τ : Ty} {xs : List τ.I} (ha : AbsH E G L w) (hd : DC1 G L w (.eptr id g n off) v)
    (ho : (∃ e, L (.obj id) = some (.vec g e τ xs)) ∨ L (.obj id) = some (.sl g τ xs)) :
    n < xs.length ∧ ∃ (p : Addr) (ds : List Value), v = .pointer (some (p.add off)) ∧ RepC G.S w τ (xs.getD n τ.dflt) ds ∧ ∀ j u, ds[j]? = some u → w.cell? (p.add j) = some u := by
  obtain ⟨_, c, hc, _, hp⟩ := hd
  have key : ∀ cs, RepL (RepC G.S w τ) xs cs → n < xs.length → ∀ b cap, G.vv id = .slice (some ⟨b, 0, none⟩) xs.length cap → (∀ j u, cs[j]? = some u → w.cell? ((⟨b, 0, none⟩ : Addr).add j) = some u) →
      v = .pointer (some ⟨b, n * τ.sz + off, none⟩) →
      ∃ (p : Addr) (ds : List Value), v = .pointer (some (p.add off)) ∧ RepC G.S w τ (xs.getD n τ.dflt) ds ∧ ∀ j u, ds[j]? = some u → w.cell? (p.add j) = some u := by
    intro cs hl hn b cap hb hcell hv
    obtain ⟨ds, h1, h2⟩ := RepL.get (fun _ _ h => RepC.length h) n (xs.getD n τ.dflt) hl (by simp [List.getD, List.getElem?_eq_getElem hn])
    refine ⟨⟨b, n * τ.sz, none⟩, ds, by rw [add_none]; exact hv, h1, fun j u hj => ?_⟩
    have hjl : j < τ.sz := by rw [← RepC.length h1]; exact (List.getElem?_eq_some_iff.1 hj).1
    have := hcell (n * τ.sz + j) u (by rw [h2 j hjl]; exact hj)
    rw [add_none] at this ⊢
    simpa using this
  rcases ho with ⟨e, ho⟩ | ho
  · rw [hc] at ho; cases ho
    obtain ⟨hn, b, cap, hb, hv⟩ := hp rfl
    obtain ⟨cs, hw, hl⟩ := ha.vec id g e τ xs hc
    exact ⟨hn, key cs hl hn b cap hb (hw.cells (g := b) (by rw [hb]; rfl)) hv⟩
  · rw [hc] at ho; cases ho
    obtain ⟨hn, b, cap, hb, hv⟩ := hp rfl
    refine ⟨hn, ?_⟩
    rcases ha.sl id g τ xs hc with ⟨h0, rfl⟩ | ⟨x, cap', cs, h1, _, hl, hr⟩
    · simp at hn
    · rw [hb] at h1
      cases h1
      exact key cs hl hn b _ hb (fun j u hj => (hr j u hj).2) hv

end
end Go.Proofs.YtllhidkadhoipaaDoor.Ab
