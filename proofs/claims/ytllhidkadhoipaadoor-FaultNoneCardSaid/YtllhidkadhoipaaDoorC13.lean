/- Each operation does what its abstract one does, guards and calls included; a region, in whatever order. For every program whose types are as told. -/
import Derived.Test.YtllhidkadhoipaaDoorE4
namespace Go.Proofs.YtllhidkadhoipaaDoor.Ab
open Go Go.RowKit

section
variable {P : Program} {Γ : FuncId → List D → D → Prop} {E : Env} {G : Gh} {L L' : Mem} {a : Act} {w : World} {rs ws : List Loc} {lay : Lay} {o : Oper}

theorem closed_sv {d : D} {v : Value} (hc : d.closed = true) (hd : DV G L w d v) : SV G.S w d v := by
  have key : ∀ {x : D} {u : Value}, x.closed1 = true → DC1 G L w x u → DC1 ⟨fun _ => 0, fun _ => .nilFunc, G.S⟩ (fun _ => none) w x u := by
    intro x u hx hu
    cases x <;> first | exact hu | cases hx
  cases d with
  | val τ x => obtain ⟨cs, h1, h2⟩ := hd; exact ⟨cs, h1, h2⟩
  | raw u => obtain ⟨cs, ⟨v', e, h1⟩, h2⟩ := hd; exact ⟨cs, ⟨v', e, h1⟩, h2⟩
  | sptr τ x off => obtain ⟨cs, ⟨v', e, h1⟩, h2⟩ := hd; exact ⟨cs, ⟨v', e, h1⟩, h2⟩
  | agg ds =>
    obtain ⟨cs, h1, h2⟩ := hd
    refine ⟨cs, ?_, h2⟩
    have hall : ∀ x ∈ ds, x.closed1 = true := by simpa [D.closed, List.all_eq_true] using hc
    clear h2 hc
    have : ∀ (ds : List D) (cs : List Value), (∀ x ∈ ds, x.closed1 = true) → DCs G L w ds cs → DCs ⟨fun _ => 0, fun _ => .nilFunc, G.S⟩ (fun _ => none) w ds cs := by
      intro ds
      induction ds with
      | nil => intro cs _ h; cases cs with | nil => trivial | cons _ _ => exact h.elim
      | cons d ds ih =>
        intro cs hx h
        cases cs with
        | nil => exact h.elim
        | cons u us => exact ⟨key (hx d (by simp)) h.1, ih us (fun x hm => hx x (by simp [hm])) h.2⟩
    exact this ds cs hall h1
  | _ => cases hc

theorem asTy_dv {G : Gh} {L : Mem} {w : World} {τ : Ty} {d : D} {x : τ.I} {v : Value} (h : d.asTy τ = some x) (hd : DV G L w d v) : DV G L w (.val τ x) v := by
  have hr := asTy_okV h hd
  refine ⟨v.cells.toList, hr, ?_⟩
  cases d with
  | val τ' y =>
    simp only [D.asTy] at h
    split at h
    · rename_i e
      subst e
      obtain ⟨cs, _, h2⟩ := hd
      rw [h2.cells]
      exact h2
    · cases h
  | raw u =>
    obtain ⟨cs, _, h2⟩ := hd
    simp only [D.asTy, as1] at h
    split at h <;> first | (rw [h2.cells]; exact h2) | cases h
  | sptr τ' y off =>
    obtain ⟨cs, _, h2⟩ := hd
    simp only [D.asTy, as1] at h
    split at h <;> first | (rw [h2.cells]; exact h2) | cases h
  | agg ds =>
    simp only [D.asTy] at h
    cases hA : τ.isAgg with
    | false => rw [hA] at h; cases h
    | true =>
      obtain ⟨cs, _, h2⟩ := hd
      rw [h2.cells]
      simpa [D.isAgg, hA] using h2
  | _ => simp [D.asTy] at h

/-- With the own blocks taken for sealed ones. -/
def Gh.lent (G : Gh) (L : Mem) : Gh := { G with S := fun b => G.S b ∨ ∃ id, ownB G L id = some b }

theorem lent_step : Step G L (G.lent L) L := fun _ c h => ⟨c, h, Nat.le_refl _, fun _ => ⟨c.alike_refl, rfl, rfl⟩⟩
theorem lent_keep : Keep G.S w (G.lent L).S w := ⟨fun _ h => .inl h, fun _ _ => rfl⟩

theorem lendCell_ok {d : D} {k : D → Pr} {v : Value} (h : Run Γ (lendCell d k) L L' rs ws) (ha : Abs E G L a w) (hd : DC1 G L w d v) :
    ∃ d' rs', Run Γ (k d') L L' rs' ws ∧ DC1 (G.lent L) L w d' v ∧ d'.isAgg = d.isAgg := by
  cases d with
  | vec id g =>
    simp only [lendCell] at h
    cases h with
    | rd h =>
      revert h
      dsimp only
      split
      · rename_i g' e τ xs hl
        intro h
        cases h with
        | gd hb h =>
          refine ⟨_, _, h, ?_, rfl⟩
          obtain ⟨_, c, hc, _, hp⟩ := hd
          rw [hl] at hc
          cases hc
          have : v = G.vv id := hp (beq_nat hb)
          subst this
          obtain ⟨cs, hown, hrl⟩ := ha.heap.vec id g' e τ xs hl
          refine ⟨_, rfl, slRep_of_own hown (hrl.mono fun _ _ h => RepC.mono lent_keep h) fun b hb => .inr ⟨id, by simp [ownB, hl, hb, ownC]⟩⟩
      · rename_i g' τ xs hl
        intro h
        cases h with
        | gd hb h =>
          refine ⟨_, _, h, ?_, rfl⟩
          obtain ⟨_, c, hc, _, hp⟩ := hd
          rw [hl] at hc
          cases hc
          have : v = G.vv id := hp (beq_nat hb)
          subst this
          exact ⟨_, rfl, (ha.heap.sl id g' τ xs hl).mono lent_keep fun _ _ h => RepC.mono lent_keep h⟩
      · intro h; cases h
  | mp id g =>
    simp only [lendCell] at h
    cases h with
    | rd h =>
      revert h
      dsimp only
      split
      · rename_i g' κ τ xs hl
        intro h
        cases h with
        | gd hb h =>
          refine ⟨_, _, h, ?_, rfl⟩
          obtain ⟨_, c, hc, _, hp⟩ := hd
          rw [hl] at hc
          cases hc
          have : v = .map (some (G.blk id)) := hp (beq_nat hb)
          subst this
          obtain ⟨es, cl, h1, h2⟩ := ha.heap.obj id _ hl
          exact ⟨_, rfl, .inr ⟨_, es, cl, rfl, .inr ⟨id, by simp [ownB, hl, ownC]⟩, h1, h2.mono (fun _ _ h => RepC.mono lent_keep h) fun _ _ h => RepC.mono lent_keep h⟩⟩
      · rename_i g' κ τ xs hl
        intro h
        cases h with
        | gd hb h =>
          refine ⟨_, _, h, ?_, rfl⟩
          obtain ⟨_, c, hc, _, hp⟩ := hd
          rw [hl] at hc
          cases hc
          have : v = .map (some (G.blk id)) := hp (beq_nat hb)
          subst this
          exact ⟨_, rfl, MapRep.mono lent_keep (fun _ _ h => RepC.mono lent_keep h) (fun _ _ h => RepC.mono lent_keep h) (ha.heap.obj id _ hl)⟩
      · intro h; cases h
  | _ => exact ⟨_, _, h, hd.mono lent_step lent_keep, rfl⟩

theorem lendCells_ok (ha : Abs E G L a w) : ∀ {ds : List D} {k : List D → Pr} {vs : List Value} {rs : List Loc}, Run Γ (lendCells ds k) L L' rs ws → DCs G L w ds vs → ∃ ds' rs', Run Γ (k ds') L L' rs' ws ∧ DCs (G.lent L) L w ds' vs
  | [], _, [], _, h, _ => ⟨[], _, h, trivial⟩
  | d :: ds, k, v :: vs, _, h, hd => by
    obtain ⟨d', rs1, h1, k1, _⟩ := lendCell_ok h ha hd.1
    obtain ⟨ds', rs2, h2, k2⟩ := lendCells_ok ha h1 hd.2
    exact ⟨d' :: ds', rs2, h2, k1, k2⟩
  | [], _, _ :: _, _, _, hd => hd.elim
  | _ :: _, _, [], _, _, hd => hd.elim

theorem lendD_ok {d : D} {k : D → Pr} {v : Value} (h : Run Γ (lendD d k) L L' rs ws) (ha : Abs E G L a w) (hd : DV G L w d v) :
    ∃ d' rs', Run Γ (k d') L L' rs' ws ∧ DV (G.lent L) L w d' v := by
  cases d with
  | agg ds =>
    obtain ⟨cs, h1, h2⟩ := hd
    obtain ⟨ds', rs1, k1, k3⟩ := lendCells_ok ha h h1
    exact ⟨_, rs1, k1, cs, k3, h2⟩
  | vec id g =>
    obtain ⟨cs, ⟨v', rfl, h1⟩, h2⟩ := hd
    obtain ⟨d', rs1, k1, k3, k4⟩ := lendCell_ok h ha h1
    simp only [D.isAgg, wrapV, Bool.false_eq_true, if_false, List.cons.injEq, and_true] at h2
    obtain ⟨rfl, h3⟩ := h2
    exact ⟨_, rs1, k1, k3.dw k4⟩
  | mp id g =>
    obtain ⟨cs, ⟨v', rfl, h1⟩, h2⟩ := hd
    obtain ⟨d', rs1, k1, k3, k4⟩ := lendCell_ok h ha h1
    simp only [D.isAgg, wrapV, Bool.false_eq_true, if_false, List.cons.injEq, and_true] at h2
    obtain ⟨rfl, h3⟩ := h2
    exact ⟨_, rs1, k1, k3.dw k4⟩
  | _ => exact ⟨_, rs, h, hd.mono lent_step lent_keep⟩

theorem DV.plain1 {id g off : Nat} {v : Value} (hd : DV G L w (.ptr id g off) v) : v.oneCell' = true := DC1.plain (d := .ptr id g off) (DV_one rfl hd (by simp) (by simp) (by simp)) (by simp)

theorem lendTo_ok {τ : Ty} {d : D} {k : D → Pr} {v : Value} (h : Run Γ (lendTo τ d k) L L' rs ws) (ha : Abs E G L a w) (hd : DV G L w d v) :
    ∃ x rs', Run Γ (k (.val τ x)) L L' rs' ws ∧ DV (G.lent L) L w (.val τ x) v := by
  have other : ∀ {rs : List Loc}, Run Γ (lendD d fun d' => match d'.asTy τ with
      | some x => k (.val τ x)
      | none => .fail) L L' rs ws → ∃ x rs', Run Γ (k (.val τ x)) L L' rs' ws ∧ DV (G.lent L) L w (.val τ x) v := by
    intro rs h
    obtain ⟨d', rs1, h1, k1⟩ := lendD_ok h ha hd
    revert h1
    split
    · rename_i x hx
      intro h1
      exact ⟨x, rs1, h1, asTy_dv hx k1⟩
    · intro h1; cases h1
  unfold lendTo at h
  split at h
  · rename_i id g off
    split at h
    · rename_i e
      have hd1 := DV_one rfl hd (by simp) (by simp) (by simp)
      cases h with
      | rd h =>
        revert h
        dsimp only
        split
        · rename_i g' n0 hl
          intro h
          cases h with
          | gd hb h =>
            simp only [Bool.and_eq_true] at hb
            have e1 := beq_nat hb.1
            have e2 := beq_nat hb.2
            subst e1 e2
            obtain ⟨ds, rs2, h2, hlen, hcells⟩ := rdCells_ok h
            obtain ⟨vs, hvs, hmem⟩ := ha.heap.cells hl ds 0 hcells
            obtain ⟨ds', rs3, h3, k3⟩ := lendCells_ok ha h2 hvs
            revert h3
            split
            · rename_i x hx
              intro h3
              have hp := ptr_at hd1 hl
              have hr := asmAll_ok hx k3
              refine ⟨some x, rs3, h3, [v], ⟨v, rfl, .inr ⟨_, vs, x, hp, rfl, hr, fun j u hj => ⟨.inr ⟨id, by simp [ownB, hl, ownC]⟩, ?_⟩⟩⟩, rfl, hd.plain1⟩
              rw [add_none]
              have := hmem j u hj
              simpa using this
            · intro h3; cases h3
        · rename_i g' τ' y hl
          split
          · rename_i hτ
            subst hτ
            intro h
            cases h with
            | gd hb h =>
              simp only [Bool.and_eq_true] at hb
              have e1 := beq_nat hb.1
              have e2 := beq_nat hb.2
              subst e1 e2
              obtain ⟨_, c, hc, _, hp⟩ := hd1
              rw [hl] at hc
              cases hc
              have hp : v = .pointer (some ⟨G.blk id, 0, none⟩) := hp rfl
              have hr := ha.heap.obj id _ hl
              exact ⟨_, _, h, [v], ⟨v, rfl, by rw [hp]; exact RefRep.mono lent_keep (fun _ _ h => RepC.mono lent_keep h) hr⟩, rfl, hd.plain1⟩
          · intro h; cases h
        · intro h; cases h
    · cases h
  · exact other h

theorem lendTos_ok (ha : Abs E G L a w) : ∀ {τs : List Ty} {ds : List D} {k : List D → Pr} {vs : List Value} {rs : List Loc}, Run Γ (lendTos τs ds k) L L' rs ws → All2 (DV G L w) ds vs → ∃ ds' rs', Run Γ (k ds') L L' rs' ws ∧ All2 (SV (G.lent L).S w) ds' vs
  | [], [], _, _, _, h, .nil => ⟨[], _, h, .nil⟩
  | τ :: τs, d :: ds, k, _, _, h, .cons hd hds => by
    simp only [lendTos] at h
    obtain ⟨x, rs1, h1, k1⟩ := lendTo_ok h ha hd
    obtain ⟨ds', rs2, h2, k2⟩ := lendTos_ok ha h1 hds
    exact ⟨_ :: ds', rs2, h2, .cons (closed_sv rfl k1) k2⟩
  | [], _ :: _, _, _, _, h, _ => by simp only [lendTos] at h; cases h
  | _ :: _, [], _, _, _, h, _ => by simp only [lendTos] at h; cases h

theorem RepC.flat {S S' : Nat → Prop} {w w' : World} : ∀ {τ : Ty} {x : τ.I} {cs}, τ.flat = true → RepC S w τ x cs → RepC S' w' τ x cs
  | .bool, _, _, _, h | .int _, _, _, _, h | .str, _, _, _, h | .unit, _, _, _, h => h
  | .slice _, _, _, hf, _ => by cases hf
  | .value, _, _, hf, _ => by cases hf
  | .ref _, _, _, hf, _ => by cases hf
  | .map _ _, _, _, hf, _ => by cases hf
  | .err, _, _, hf, _ => by cases hf
  | .pair a b, _, _, hf, ⟨c, d, e, h1, h2⟩ => by
    simp only [Ty.flat, Bool.and_eq_true] at hf
    exact ⟨c, d, e, RepC.flat hf.1 h1, RepC.flat hf.2 h2⟩
  | .arr _ e, _, _, hf, ⟨h1, h2⟩ => ⟨h1, h2.mono fun _ _ h => RepC.flat (τ := e) hf h⟩

theorem flat_dv {d : D} {v : Value} {G G' : Gh} {L L' : Mem} {w w' : World} (hf : d.flat = true) (h : DV G L w d v) : DV G' L' w' d v := by
  have key : ∀ {x : D} {u : Value}, x.flat1 = true → DV G L w x u → DV G' L' w' x u := by
    intro x u hx hu
    cases x with
    | val τ y => obtain ⟨cs, h1, h2⟩ := hu; exact ⟨cs, RepC.flat hx h1, h2⟩
    | _ => cases hx
  cases d with
  | tup ds =>
    obtain ⟨vs, e, h⟩ := h
    refine ⟨vs, e, ?_⟩
    have hall : ∀ x ∈ ds, x.flat1 = true := by simpa [D.flat, List.all_eq_true] using hf
    clear hf e
    induction h with
    | nil => exact .nil
    | @cons x u l m r _ ih =>
      refine .cons ?_ (ih fun x hx => hall x (by simp [hx]))
      have hx := hall x (by simp)
      cases x with
      | val τ y => exact key (x := .val τ y) hx r
      | _ => cases hx
  | _ => exact key hf h

theorem call_run {c : Call} {f : FuncId} (ho : o.op = .call c) (hc : c.callee = .value (.func f)) (hent : Enters P f) : (execOp a.eval o).run P w = .ok (.enter f (c.args.map a.eval)) w := by
  simp only [execOp, ho, resolve, hc, Sem.run_bind, Act.eval, Deferred.ofValue, Sem.run_pure, Result.andThen_ok, invoke]
  have := hent (#[] ++ c.args.map a.eval ++ #[]) w
  simpa using this

theorem call_run_clo {c : Call} {f : FuncId} {t : Tmp} {cs : Array Value} (ho : o.op = .call c) (hc : c.callee = .value (.tmp t)) (hv : a.eval (.tmp t) = .func (.func f) #[] cs) (hent : Enters P f) : (execOp a.eval o).run P w = .ok (.enter f (c.args.map a.eval ++ cs)) w := by
  simp only [execOp, ho, resolve, hc, Sem.run_bind, hv, Deferred.ofValue, Sem.run_pure, Result.andThen_ok, invoke]
  have := hent (#[] ++ c.args.map a.eval ++ cs) w
  simpa using this

/-- What a call comes to, the caller's frame included. -/
def CallOK (P : Program) (E : Env) (L' : Mem) (a : Act) (w : World) (dst : Option Tmp) (f : FuncId) (vs : List Value) : Prop :=
  Enters P f ∧ Calls P f vs.toArray w fun e w' => ∃ v G', e = .returned v ∧ Abs E G' L' (a.put dst v) w'

theorem call_plain (hΓ : ∀ f ds d, Γ f ds d → Means P lay f ds d) {dst : Option Tmp} {f : FuncId} {ds : List D} {vs : List Value} (hsp : lay.sp f = .plain)
    (h : Run Γ (sealDs ds fun ds => .gd (ds.all D.closed) (.call f ds (putD dst))) L L' rs ws) (ha : Abs E G L a w) (hn : ∀ n, dst = some n → n < E.N) (hds : All2 (DV G L w) ds vs) : CallOK P E L' a w dst f vs := by
  obtain ⟨ds', G1, L1, rs2, ws2, h2, a1, hds'⟩ := sealDs_ok h ha hds
  cases h2 with
  | gd hb h2 =>
    cases h2 with
    | call hcall h2 =>
      rename_i d
      have hm := hΓ _ _ _ hcall
      simp only [Means, hsp] at hm
      obtain ⟨hent, hcalls⟩ := hm
      have hall : ∀ x ∈ ds', x.closed = true := by simpa [List.all_eq_true] using hb
      have hsv : All2 (SV G1.S w) ds' vs := by
        clear hcall hb h h2 hds hcalls
        induction hds' with
        | nil => exact .nil
        | cons r _ ih => exact .cons (closed_sv (hall _ (by simp)) r) (ih fun x hx => hall x (by simp [hx]))
      refine ⟨hent, (hcalls G1.S w _ a1.abs.heap.bs a1.abs.heap.sealed hsv).mono ?_⟩
      rintro e w' ⟨v, S', rfl, hv, hu, hS1, hS2⟩
      have hab := a1.abs.called hu hS1 hS2
      exact ⟨_, _, rfl, putD_ok h2 hab hn (DV.mono (G := ⟨fun _ => 0, fun _ => .nilFunc, S'⟩) (L := fun _ => none) (G' := { G1 with S := S' }) (L' := L1) (step_none _ _ _) (Keep.refl S' _) hv)⟩

theorem call_borrow (hΓ : ∀ f ds d, Γ f ds d → Means P lay f ds d) {dst : Option Tmp} {f : FuncId} {τs : List Ty} {fresh : Bool} {ds : List D} {vs : List Value} (hsp : lay.sp f = .borrow τs fresh)
    (h : Run Γ (lendTos τs ds fun ds => .call f ds fun d => .gd (fresh || d.flat) (putD dst d)) L L' rs ws) (ha : Abs E G L a w) (hn : ∀ n, dst = some n → n < E.N) (hds : All2 (DV G L w) ds vs) : CallOK P E L' a w dst f vs := by
  obtain ⟨ds', rs2, h2, hsv⟩ := lendTos_ok ha h hds
  cases h2 with
  | call hcall h2 =>
    rename_i d
    cases h2 with
    | gd hfl h2 =>
      have hm := hΓ _ _ _ hcall
      have hsealed : ∀ b, (G.lent L).S b → b < w.heap.size := by
        rintro b (hb | ⟨id, hb⟩)
        · exact ha.heap.sealed b hb
        · exact ha.heap.own_lt hb
      cases fresh with
      | false =>
        simp only [Means, hsp] at hm
        obtain ⟨hent, hcalls⟩ := hm
        refine ⟨hent, (hcalls (G.lent L).S w _ (ha.heap.bs.mono ⟨fun _ h => .inl h, fun _ _ => rfl⟩) hsealed hsv).mono ?_⟩
        rintro e w' ⟨v, S', rfl, hv, hu, _, _⟩
        have hab := ha.called (S' := G.S) hu (fun _ h => h) (fun b hb => ⟨Nat.lt_of_lt_of_le (ha.heap.sealed b hb) hu.size, fun _ => hb⟩)
        exact ⟨_, _, rfl, putD_ok h2 hab hn (flat_dv (by simpa using hfl) hv)⟩
      | true =>
        simp only [Means, hsp] at hm
        obtain ⟨hent, hcalls⟩ := hm
        refine ⟨hent, (hcalls (G.lent L).S w _ (ha.heap.bs.mono ⟨fun _ h => .inl h, fun _ _ => rfl⟩) hsealed hsv).mono ?_⟩
        rintro e w' ⟨v, S', rfl, hv, hu, hS⟩
        have hab := ha.called (S' := fun b => G.S b ∨ S' b) hu (fun _ h => .inl h) (fun b hb => by
          rcases hb with hb | hb
          · exact ⟨Nat.lt_of_lt_of_le (ha.heap.sealed b hb) hu.size, fun _ => hb⟩
          · exact ⟨(hS b hb).2, fun hlt => absurd hlt (Nat.not_lt_of_le (hS b hb).1)⟩)
        exact ⟨_, _, rfl, putD_ok h2 hab hn (DV.mono (G := ⟨fun _ => 0, fun _ => .nilFunc, S'⟩) (L := fun _ => none) (step_none _ _ _) ⟨fun b (h : S' b) => (Or.inr h : G.S b ∨ S' b), fun _ _ => rfl⟩ hv)⟩

theorem call_clone (hlay : LayOK P lay) {dst : Option Tmp} {f : FuncId} {e : TypeId} {τ : Ty} {n : Nat} {ds : List D} {vs : List Value} (hsp : lay.sp f = .clone e τ n)
    (h : Run Γ (sealDs ds (copied lay.ob dst e τ n)) L L' rs ws) (ha : Abs E G L a w) (hn : ∀ n, dst = some n → n < E.N) (hds : All2 (DV G L w) ds vs) : CallOK P E L' a w dst f vs := by
  obtain ⟨ds', G1, L1, rs2, ws2, h2, a1, hds'⟩ := sealDs_ok h ha hds
  unfold copied at h2
  revert h2
  split
  · rename_i d
    split
    · rename_i xs hxs
      intro h2
      cases h2 with
      | gd hbd h2 =>
      simp only [Bool.and_eq_true, decide_eq_true_eq] at hbd
      obtain ⟨hent, hcalls⟩ := hlay.cln f e τ n hsp
      cases hds' with
      | cons hd hnil =>
        cases hnil
        rename_i v
        have hsl : SlRep G1.S w (RepC G1.S w τ) xs v := by
          obtain ⟨cs, ⟨u, e1, h1⟩, h2⟩ := asTy_dv hxs hd
          simp only [D.isAgg, Ty.isAgg, wrapV, Bool.false_eq_true, if_false] at h2
          rw [e1] at h2
          cases h2.1
          exact h1
        refine ⟨hent, (hcalls G1.S w v xs a1.abs.heap.bs a1.abs.heap.sealed hsl hbd.1 hbd.2).mono ?_⟩
        rintro out w' ⟨v', cs, S', rfl, k1, k2, k3, hu, hS1, hS2⟩
        have hab := a1.abs.called hu hS1 hS2
        obtain ⟨G2, m1⟩ := newVec_ok h2 hab hn (v := v') k1 k2 (fun b hb => ⟨.inl (Nat.le_trans a1.abs.heap.base_le (k3 b hb).1), (k3 b hb).2, fun j hj => by
          have h4 := a1.abs.heap.own_lt (id := j) (b := b) (by
            have : ownB { G1 with S := S' } L1 j = ownB G1 L1 j := ownB_congr rfl rfl rfl
            rw [← this]; exact hj)
          exact Nat.lt_irrefl _ (Nat.lt_of_lt_of_le h4 (k3 b hb).1)⟩)
        exact ⟨_, _, rfl, m1⟩
    · intro h; cases h
  · intro h; cases h

theorem call_delete (hlay : LayOK P lay) {dst : Option Tmp} {f : FuncId} {e : TypeId} {τ : Ty} {ds : List D} {vs : List Value} (hsp : lay.sp f = .delete e τ)
    (h1 : Run Γ (cutOut dst e τ ds) L L' rs ws) (ha : Abs E G L a w) (hn : ∀ n, dst = some n → n < E.N) (hds : All2 (DV G L w) ds vs) : CallOK P E L' a w dst f vs := by
  unfold cutOut at h1
  split at h1
  · rename_i id g i j
    cases hds with
    | cons hd0 hr =>
      cases hr with
      | cons hd1 hr =>
        cases hr with
        | cons hd2 hr =>
          cases hr
          rename_i sv iv jv
          have ei := DV_int hd1
          have ej := DV_int hd2
          subst ei ej
          obtain ⟨_, cc, hcc, _, hpp⟩ := DV_one rfl hd0 (by simp) (by simp) (by simp)
          cases h1 with
          | rd h1 =>
            revert h1
            dsimp only
            split
            · rename_i g' e' τ' xs hl
              split
              · rename_i hτ
                subst hτ
                intro h1
                cases h1 with
                | gd hb h1 =>
                  simp only [Bool.and_eq_true, decide_eq_true_eq] at hb
                  obtain ⟨⟨⟨⟨hg, he⟩, hb1⟩, hb2⟩, hb3⟩ := hb
                  have hg := beq_nat hg
                  have he := beq_nat he
                  subst hg he
                  rw [hcc] at hl
                  cases hl
                  have hv : sv = G.vv id := hpp rfl
                  subst hv
                  obtain ⟨hent, hcalls⟩ := hlay.del f e τ' hsp
                  obtain ⟨cs, hown, hrl⟩ := ha.heap.vec id g e τ' xs hcc
                  obtain ⟨k1, k2, k3⟩ := ha.kill hcc (Nat.le_refl _)
                  have hidown : ownB G L id = (G.vv id).ownBlock := ownB_some hcc
                  rw [hidown] at k3
                  have hown0 : ∀ b, (G.vv id).ownBlock = some b → (E.base ≤ b ∨ E.X b) ∧ ¬ G.S b := fun b hb => ha.heap.own id b (hidown.trans hb)
                  refine ⟨hent, (hcalls G.S w (G.vv id) xs cs i j ha.heap.sealed hown hrl (fun b hb => (hown0 b hb).2) hb1 hb2 hb3).mono ?_⟩
                  rintro out w' ⟨v', news, rfl, r2, r3, r4, r5⟩
                  have ag : Abs E G (upd L (.obj id) (.dead g)) a w' := k1.grown r4 (fun k hk => ⟨(hown0 k hk).1, (hown0 k hk).2, fun j => k3 j k hk⟩)
                  obtain ⟨G1, m1, m2, m3, m4⟩ := ag.newVec (n := id) (g := g + 1) (e := e) (τ := τ') (xs := xs.take i.toNat ++ xs.drop j.toNat) (v := v') (cs := news) (fun c hc' => by simp [upd] at hc'; subst hc'; exact Nat.lt_succ_self _) r2 r3 (fun b hb => by
                    rw [r5] at hb
                    exact ⟨(hown0 b hb).1, (hown0 b hb).2, fun j _ => k3 j b hb⟩)
                  have hL : upd (upd L (.obj id) (.dead g)) (.obj id) (.vec (g + 1) e τ' (xs.take i.toNat ++ xs.drop j.toNat)) = upd L (.obj id) (.vec (g + 1) e τ' (xs.take i.toNat ++ xs.drop j.toNat)) := by
                    funext l; simp only [upd]; split <;> rfl
                  rw [hL] at m1
                  cases h1 with
                  | wr h1 =>
                    have h1cell : v'.oneCell' = true := by rcases r2.2 with ⟨rfl, _⟩ | ⟨_, _, _, rfl, _⟩ <;> rfl
                    exact ⟨_, _, rfl, putD_ok h1 m1 hn ⟨[_], ⟨_, rfl, h1cell, .vec (g + 1) e τ' (xs.take i.toNat ++ xs.drop j.toNat), by simp [upd]; rfl, Nat.le_refl _, fun _ => m2.symm⟩, rfl, h1cell⟩⟩
              · intro h; cases h
            · intro h; cases h
  · cases h1

/-! ### Calls that are handed what they may write to -/

theorem packD_ok {G : Gh} {L : Mem} {w : World} {ds : List D} {vs : List Value} {d : D} (h : packD ds = some d) (hd : All2 (DV G L w) ds vs) : DV G L w d (packV vs) := by
  unfold packD at h
  split at h
  · cases h
    cases hd with
    | cons h1 h2 => cases h2; exact h1
  · rename_i hne
    cases hall : ds.all D.notTup with
    | false => rw [hall] at h; cases h
    | true =>
      rw [hall, cond_true] at h
      cases h
      have h2 : All2 (DW G L w) ds vs := by
        rw [List.all_eq_true] at hall
        clear hne
        induction hd with
        | nil => exact .nil
        | @cons a b l m r _ ih =>
          refine .cons ?_ (ih fun x hx => hall x (by simp [hx]))
          have := hall a (by simp)
          cases a with
          | tup _ => cases this
          | _ => exact r
      refine ⟨vs, ?_, h2⟩
      have hl : ds.length = vs.length := by
        clear h2 hall hne
        induction hd with
        | nil => rfl
        | cons _ _ ih => simp [ih]
      rcases vs with _ | ⟨u, _ | ⟨u2, us⟩⟩
      · rfl
      · rcases ds with _ | ⟨x, _ | ⟨y, l⟩⟩
        · cases hl
        · exact (hne x rfl).elim
        · simp at hl
      · rfl

theorem Tops.perm : ∀ {ss : List Sh} {ds : List D} {iss : List (List Nat)}, Tops L ss ds iss → iss.flatten.Perm (topIds ss ds ++ subIds ss iss)
  | [], [], [], _ => .refl _
  | s :: ss, d :: ds, is :: iss, h => by
    by_cases hb : ∃ c, s = .box c
    · obtain ⟨c, rfl⟩ := hb
      obtain ⟨⟨i, j, is', rfl, rfl, _⟩, h⟩ := h
      have ih := Tops.perm h
      show ((i :: is') ++ iss.flatten).Perm (([i] ++ topIds ss ds) ++ (is' ++ subIds ss iss))
      simp only [List.cons_append, List.nil_append]
      refine .cons _ ?_
      refine (List.Perm.append_left is' ih).trans ?_
      rw [← List.append_assoc, ← List.append_assoc]
      exact List.Perm.append_right _ List.perm_append_comm
    · have h' : Tops L ss ds iss := by cases s <;> first | exact h | exact absurd ⟨_, rfl⟩ hb
      have ih := Tops.perm h'
      have e1 : topIds (s :: ss) (d :: ds) = topIds ss ds := by cases s <;> first | rfl | exact absurd ⟨_, rfl⟩ hb
      have e2 : subIds (s :: ss) (is :: iss) = is ++ subIds ss iss := by cases s <;> first | rfl | exact absurd ⟨_, rfl⟩ hb
      rw [e1, e2, List.flatten_cons]
      refine (List.Perm.append_left is ih).trans ?_
      rw [← List.append_assoc, ← List.append_assoc]
      exact List.Perm.append_right _ List.perm_append_comm
  | [], _ :: _, iss, h => by cases iss <;> exact h.elim
  | s :: _, [], iss, h => by cases s <;> cases iss <;> exact h.elim
  | [], [], _ :: _, h => h.elim
  | s :: _, _ :: _, [], h => by cases s <;> exact h.elim

theorem Tops.congr {L1 : Mem} : ∀ {ss : List Sh} {ds : List D} {iss : List (List Nat)}, Tops L ss ds iss → (∀ i ∈ topIds ss ds, L1 (.obj i) = L (.obj i)) → Tops L1 ss ds iss
  | [], [], [], _, _ => trivial
  | s :: ss, d :: ds, is :: iss, h, he => by
    by_cases hb : ∃ c, s = .box c
    · obtain ⟨c, rfl⟩ := hb
      obtain ⟨⟨i, j, is', rfl, rfl, e⟩, h⟩ := h
      exact ⟨⟨i, j, is', rfl, rfl, by rw [he i (by simp [topIds])]; exact e⟩, Tops.congr h fun q hq => he q (by simp [topIds, hq])⟩
    · have h' : Tops L ss ds iss := by cases s <;> first | exact h | exact absurd ⟨_, rfl⟩ hb
      have e1 : topIds (s :: ss) (d :: ds) = topIds ss ds := by cases s <;> first | rfl | exact absurd ⟨_, rfl⟩ hb
      have := Tops.congr (L1 := L1) h' (by rw [← e1]; exact he)
      cases s <;> first | exact this | exact absurd ⟨_, rfl⟩ hb
  | [], _ :: _, iss, h, _ => by cases iss <;> exact h.elim
  | s :: _, [], iss, h, _ => by cases s <;> cases iss <;> exact h.elim
  | [], [], _ :: _, h, _ => h.elim
  | s :: _, _ :: _, [], h, _ => by cases s <;> exact h.elim

/-- What the boxes' own blocks are behind the call. -/
theorem tops_back {S : Nat → Prop} {w' : World} : ∀ {ss : List Sh} {ds qs : List D} {iss : List (List Nat)} {vs : List Value} {hs Bs : List Nat}, Tops L ss ds iss → OwnBackS S w' ss qs vs hs Bs → All2 (DV G L w) ds vs →
    ∀ i ∈ topIds ss ds, G.blk i ∈ hs ∧ ∃ j n us e, L (.obj i) = some (.box j n) ∧ w'.heap[G.blk i]? = some (.cells us e (0, 0)) ∧ us.size = n
  | [], [], _, _, [], _, _, _, _, .nil => fun i h => by cases h
  | s :: ss, d :: ds, qs, is :: iss, v :: vs, hs, Bs, ht, ho, .cons hd hds => by
    by_cases hb : ∃ c, s = .box c
    · obtain ⟨c, rfl⟩ := hb
      obtain ⟨⟨i, j, is', rfl, rfl, e⟩, ht⟩ := ht
      obtain ⟨qs', x, b, hs', us, e2, B', Bs', rfl, rfl, rfl, hb1, o1, rfl, ho'⟩ := ho
      intro q hq
      have hp := ptr_at (one_dv hd (by simp) (by simp) (by simp) (by simp)).1 e
      have hblk : b = G.blk i := by injection hp with hp; injection hp with hp; injection hp
      rcases List.mem_append.1 hq with hq | hq
      · simp at hq
        subst hq
        refine ⟨by simp [hblk], j, c.csz, us, e2, e, by rw [← hblk]; exact hb1, ?_⟩
        have := Own.length o1
        simpa using this
      · obtain ⟨k1, k2⟩ := tops_back ht ho' hds q hq
        exact ⟨List.mem_cons_of_mem _ k1, k2⟩
    · have ht' : Tops L ss ds iss := by cases s <;> first | exact ht | exact absurd ⟨_, rfl⟩ hb
      have ho' : OwnBackS S w' ss qs vs hs Bs := by cases s <;> first | exact ho | exact absurd ⟨_, rfl⟩ hb
      have e1 : topIds (s :: ss) (d :: ds) = topIds ss ds := by cases s <;> first | rfl | exact absurd ⟨_, rfl⟩ hb
      rw [e1]
      exact tops_back ht' ho' hds
  | [], _ :: _, _, iss, _, _, _, ht, _, _ => by cases iss <;> exact ht.elim
  | s :: _, [], _, iss, _, _, _, ht, _, _ => by cases s <;> cases iss <;> exact ht.elim
  | [], [], _, _ :: _, _, _, _, ht, _, _ => ht.elim
  | s :: _, _ :: _, _, [], _, _, _, ht, _, _ => by cases s <;> exact ht.elim

theorem call_io (hΓ : ∀ f ds d, Γ f ds d → Means P lay f ds d) {dst : Option Tmp} {f : FuncId} {ps rss : List Sh} {ob : Nat} {ds : List D} {vs : List Value} (hsp : lay.sp f = .io ps rss)
    (h : Run Γ (callIo ob dst f ps rss ds) L L' rs ws) (ha : Abs E G L a w) (hn : ∀ n, dst = some n → n < E.N) (hds : All2 (DV G L w) ds vs) : CallOK P E L' a w dst f vs := by
  unfold callIo at h
  obtain ⟨G1, L1, rs1, ws1, h1, a1⟩ := prepAll_ok h ha
  have hds1 := hds.mono fun _ _ h => a1.dv h
  obtain ⟨xs, iss, rs2, h2, o2, t2⟩ := lookAll_ok a1.abs h1 hds1
  cases h2 with
  | gd hnd h2 =>
    have hnd := noDup_nodup hnd
    cases h2 with
    | call hcall h2 =>
      rename_i d
      have hm := hΓ _ _ _ hcall
      simp only [Means, hsp] at hm
      obtain ⟨hent, qs, us, rfl, hcalls⟩ := hm
      have hperm := t2.perm
      have hnd2 := hperm.nodup_iff.1 hnd
      obtain ⟨L2, rs3, ws3, h3, a2, e2, n2, s2⟩ := killIds_ok h2 a1.abs
      have htop2 : ∀ i ∈ topIds ps ds, L2 (.obj i) = L1 (.obj i) := fun i hi => e2 _ fun j hj hm => by
        cases hj
        exact (List.nodup_append.1 hnd2).2.2 i hi i hm rfl
      obtain ⟨L3, rs4, ws4, h4, a3, e3, t3, _, b3⟩ := hushAll_ok h3 a2 (t2.congr htop2)
      -- the blocks that are handed on
      obtain ⟨B, hB⟩ : ∃ B, B = blocks G1 L1 iss.flatten := ⟨_, rfl⟩
      rw [← hB] at o2
      have hBn : B.Nodup := by rw [hB]; exact blocks_nodup a1.abs hnd
      have hBown : ∀ b ∈ B, (E.base ≤ b ∨ E.X b) ∧ ¬ G1.S b := by
        intro b hb
        rw [hB] at hb
        obtain ⟨j, _, hj⟩ := List.mem_filterMap.1 hb
        exact a1.abs.heap.own j b hj
      refine ⟨hent, (hcalls G1.S w vs B a1.abs.heap.bs a1.abs.heap.sealed o2 hBn fun b hb => (hBown b hb).2).mono ?_⟩
      rintro e w' ⟨rvs, S', B1, B2, rfl, ob1, ob2, bn, bo, hu, hS1, hS2⟩
      obtain ⟨hs, Bs, hp, obs⟩ := OwnBack.split ob1
      have hds3 : All2 (DV G1 L3 w) ds vs := hds1.mono fun _ _ h => h.mono (s2.trans (Step.of_obj e3)) (Keep.refl _ _)
      have hob3 : ∀ id, ownB G1 L3 id = ownB G1 L2 id := fun id => ownB_congr (e3 id) rfl rfl
      have hin : ∀ id b, ownB G1 L3 id = some b → b ∈ B → id ∈ topIds ps ds := by
        intro id b hb hm
        rw [hob3] at hb
        by_cases hsub : id ∈ subIds ps iss
        · rw [n2 id hsub] at hb; cases hb
        · have : ownB G1 L2 id = ownB G1 L1 id := ownB_congr (e2 _ fun j hj hm' => by cases hj; exact hsub hm') rfl rfl
          rw [this] at hb
          rw [hB] at hm
          obtain ⟨j, hj, hjb⟩ := List.mem_filterMap.1 hm
          have hij : id = j := by
            by_cases e : id = j
            · exact e
            · exact absurd hjb (a1.abs.heap.apart id j b e hb)
          subst hij
          rcases List.mem_append.1 (hperm.mem_iff.1 hj) with h | h
          · exact h
          · exact absurd h hsub
      have hS1B : ∀ b ∈ B1, ¬ S' b := fun b hb => (bo b (List.mem_append_left _ hb)).1
      have hown : ∀ id b, ownB G1 L3 id = some b → b ∈ B → ∃ n, Bare L3 id n ∧ (∃ us e, w'.heap[b]? = some (.cells us e (0, 0)) ∧ us.size = n) ∧ ¬ S' b := by
        intro id b hb hm
        have hi := hin id b hb hm
        obtain ⟨n, g, hg1, hg2⟩ := b3 id hi
        obtain ⟨k1, j, n', us, e, k2, k3, k4⟩ := tops_back t3 obs hds3 id hi
        rw [hg1] at k2
        cases k2
        have : ownB G1 L3 id = some (G1.blk id) := ownB_some hg1
        rw [hb] at this
        cases this
        exact ⟨n, ⟨g, hg1, hg2⟩, ⟨us, e, k3, k4⟩, hS1B _ (hp.mem_iff.2 (List.mem_append_left _ k1))⟩
      have a4 := a3.calledIo hu hS1 hS2 hBown hown
      have hk4 : Keep G1.S w S' w' := ⟨hS1, fun b hb => hu.block b (a1.abs.heap.sealed b hb) fun h => (hBown b h).2 hb⟩
      have hds4 : All2 (DV { G1 with S := S' } L3 w') ds vs := hds3.mono fun _ _ h => DV.mono (G := G1) (G' := { G1 with S := S' }) (fun _ c h => ⟨c, h, Nat.le_refl _, fun _ => ⟨c.alike_refl, rfl, rfl⟩⟩) hk4 h
      have hperm2 : (B1 ++ B2).Perm (hs ++ (Bs ++ B2)) := by
        rw [← List.append_assoc]
        exact List.Perm.append_right _ hp
      have hnd3 := hperm2.nodup_iff.1 bn
      have hfree : FreeB E { G1 with S := S' } L3 (Bs ++ (B2 ++ [])) := by
        rw [List.append_nil]
        refine ⟨(List.nodup_append.1 hnd3).2.1, fun b hb => ?_⟩
        have hb12 : b ∈ B1 ++ B2 := hperm2.mem_iff.2 (List.mem_append_right _ hb)
        refine ⟨?_, (bo b hb12).1, fun id h => ?_⟩
        · rcases (bo b hb12).2 with h | h
          · exact (hBown b h).1
          · exact .inl (Nat.le_trans ha.heap.base_le h)
        · have h : ownB G1 L3 id = some b := h
          have hlt := a3.heap.own_lt h
          rcases (bo b hb12).2 with hm | hm
          · have hi := hin id b h hm
            obtain ⟨k1, j, n', us, e, k2, _⟩ := tops_back t3 obs hds3 id hi
            have : ownB G1 L3 id = some (G1.blk id) := ownB_some k2
            rw [h] at this
            cases this
            exact (List.nodup_append.1 hnd3).2.2 _ k1 _ hb rfl
          · omega
      obtain ⟨G5, L5, rs5, ws5, h5, a5, f5, hS5⟩ := giveBack_ok h4 a4 hfree obs hds4
      obtain ⟨ds', G6, L6, rs6, ws6, h6, a6, f6, _, hds6⟩ := giveAll_ok h5 a5.abs f5 (by rw [hS5]; exact ob2)
      exact ⟨_, _, rfl, putO_ok h6 a6.abs hn fun x hx => packD_ok hx hds6⟩

/-- A call. -/
theorem callPr_ok (hlay : LayOK P lay) (hΓ : ∀ f ds d, Γ f ds d → Means P lay f ds d) {dst : Option Tmp} {f : FuncId} {ds : List D} {vs : List Value} (h : Run Γ (callPr lay dst f ds) L L' rs ws) (ha : Abs E G L a w) (hn : ∀ n, dst = some n → n < E.N)
    (hds : All2 (DV G L w) ds vs) : CallOK P E L' a w dst f vs := by
  unfold callPr at h
  split at h
  · rename_i hsp; exact call_plain hΓ hsp h ha hn hds
  · rename_i hsp; exact call_borrow hΓ hsp h ha hn hds
  · rename_i hsp; exact call_clone hlay hsp h ha hn hds
  · rename_i hsp; exact call_delete hlay hsp h ha hn hds
  · cases h
  · rename_i hsp; exact call_io hΓ hsp h ha hn hds

theorem DA.dv {d : D} {u : Value} (hat : d.atom = true) (hda : DA G L w d u) : DV G L w d u := by
  cases d with
  | undef => trivial
  | val τ y => exact DC1.dw (d := .val τ y) hda (by simpa [D.atom, D.isAgg] using hat)
  | agg _ => exact hda.elim
  | tup _ => exact hda.elim
  | clo _ _ => exact hda.elim
  | ifc _ _ => exact hda.elim
  | _ => exact DC1.dw hda rfl

/-- A function value in a slot. -/
theorem clo_at (ha : Abs E G L a w) {t : Tmp} {f : FuncId} {cs : List D} (hl : L (.tmp t) = some (.d (.clo f cs))) (hat : cs.all D.atom = true) :
    ∃ vs0 : List Value, a.eval (.tmp t) = .func (.func f) #[] vs0.toArray ∧ All2 (DV G L w) cs vs0 := by
  obtain ⟨cs0, ⟨v0, rfl, vs0, hv0, hcs⟩, hw⟩ := (ha.tmp t _ hl).2
  obtain ⟨hw1, _⟩ : [v0] = [a.tmps.getD t undef] ∧ _ := hw
  refine ⟨vs0, ?_, ?_⟩
  · show a.tmps.getD t undef = _
    rw [← (List.cons.inj hw1).1, hv0]
  · clear hl hw1 hv0
    induction hcs with
    | nil => exact .nil
    | cons r _ ih =>
      simp only [List.all_cons, Bool.and_eq_true] at hat
      exact .cons (r.dv hat.1) (ih hat.2)

theorem op_call (hlay : LayOK P lay) (hΓ : ∀ f ds d, Γ f ds d → Means P lay f ds d) {c : Call} {x : Operand} (ho : o.op = .call c) (hc : c.callee = .value x) (h : Run Γ (opPr lay o) L L' rs ws) (ha : Abs E G L a w) (hn : ∀ n, o.dst = some n → n < E.N) : OpOK P E L' o a w := by
  intro K Q hK
  simp only [opPr, ho, hc] at h
  have hargs : ∀ (cs : List Value), (c.args.toList.map a.eval ++ cs).toArray = c.args.map a.eval ++ cs.toArray := by
    intro cs
    rw [← List.append_toArray, ← Array.toList_map, Array.toArray_toList]
  cases x with
  | func f =>
    obtain ⟨ds, rs1, h1, hds⟩ := evOs_ok h ha
    obtain ⟨hent, hcalls⟩ := callPr_ok hlay hΓ h1 ha hn hds
    unfold Oper.wp
    rw [call_run ho hc hent, Oper.upon_enter]
    have := hargs []
    simp only [List.append_nil] at this
    rw [this] at hcalls
    rw [show c.args.map a.eval ++ #[] = c.args.map a.eval by simp] at hcalls
    refine hcalls.mono ?_
    rintro e w' ⟨v, G', rfl, ha'⟩
    exact hK _ _ _ ha'
  | tmp t =>
    cases h with
    | rd h =>
      revert h
      dsimp only
      split
      · rename_i f cs hl
        intro h
        cases h with
        | gd hat h =>
        obtain ⟨ds, rs1, h1, hds⟩ := evOs_ok h ha
        obtain ⟨vs0, hv, hcs⟩ := clo_at ha hl hat
        have hall : All2 (DV G L w) (ds ++ cs) (c.args.toList.map a.eval ++ vs0) := by
          clear h1
          generalize c.args.toList.map a.eval = us at hds
          induction hds with
          | nil => exact hcs
          | cons r _ ih => exact .cons r ih
        obtain ⟨hent, hcalls⟩ := callPr_ok hlay hΓ h1 ha hn hall
        unfold Oper.wp
        rw [call_run_clo ho hc hv hent, Oper.upon_enter]
        rw [hargs] at hcalls
        refine hcalls.mono ?_
        rintro e w' ⟨v, G', rfl, ha'⟩
        exact hK _ _ _ ha'
      · intro h; cases h
  | const v => cases h
  | global g => cases h

/-- Every operation. -/
theorem op_sound (hlay : LayOK P lay) (hΓ : ∀ f ds d, Γ f ds d → Means P lay f ds d) (h : Run Γ (opPr lay o) L L' rs ws) (ha : Abs E G L a w) (hn : ∀ n, o.dst = some n → n < E.N) : OpOK P E L' o a w := by
  cases ho : o.op with
  | move x => exact op_move (.inl ho) (by simpa only [opPr, ho] using h) ha hn
  | assign x => exact op_move (.inr ho) (by simpa only [opPr, ho] using h) ha hn
  | pick c x y => exact op_pick ho h ha hn
  | alloc t => exact op_alloc hlay ho h ha hn
  | box t x => exact op_box ho h ha hn
  | build t ps => exact op_build hlay ho h ha hn
  | buildSlice t n ps => exact op_buildSlice hlay ho h ha hn
  | load t x => exact op_load hlay ho h ha hn
  | store t x y => exact op_store hlay ho h ha
  | fieldAddr s x f => exact op_fieldAddr hlay ho h ha hn
  | indexAddr t x i => exact op_indexAddr2 hlay ho h ha hn
  | index t x i => exact op_index hlay ho h ha hn
  | slice t x l hh m => exact op_slice hlay ho h ha hn
  | extract x n => exact op_extract ho h ha hn
  | binOp op t x y t' => exact op_binOp hlay ho h ha hn
  | unOp op t x => exact op_unOp ho h ha hn
  | convert s t x => exact op_convert hlay ho h ha hn
  | makeSlice t l c => exact op_makeSlice hlay ho h ha hn
  | range t x => exact op_range hlay ho h ha hn
  | next x i => exact op_next ho h ha hn
  | nilCheck x => exact op_nilCheck ho h ha hn
  | field s x f => exact op_field hlay ho h ha hn
  | makeFunc fn first cs => exact op_makeFunc ho h ha hn
  | makeMap t r => exact op_makeMap hlay ho h ha hn
  | mapUpdate t m k x => exact op_mapUpdate hlay ho h ha
  | lookup t m k ok => exact op_lookup hlay ho h ha hn
  | call c =>
    cases hc : c.callee with
    | value x => exact op_call hlay hΓ ho hc h ha hn
    | builtin b => exact op_builtin hlay ho hc h ha hn
    | invoke r m => simp only [opPr, ho, hc] at h; cases h
  | _ => simp only [opPr, ho] at h; cases h

/-! ### Guards -/

def guardT (ops : Array Oper) (j : Nat) : Option Tmp := (ops[j]?).bind (·.dst)

/-- An operation, if its guard wants it. -/
def gPr (lay : Lay) (ops : Array Oper) (o : Oper) : Pr :=
  match o.guard with
  | none => opPr lay o
  | some (j, want) => match guardT ops j with
    | none => .fail
    | some t => .rd (.tmp t) fun
      | some (.d (.val .bool b)) => .br (b == want) (opPr lay o) (putD o.dst (.tup []))
      | some (.d (.tup [])) => putD o.dst (.tup [])
      | _ => .fail

theorem gop_sound (hlay : LayOK P lay) (hΓ : ∀ f ds d, Γ f ds d → Means P lay f ds d) {ops : Array Oper} {i : Nat} (hi : ops[i]? = some o) (h : Run Γ (gPr lay ops o) L L' rs ws) (ha : Abs E G L a w) (hn : ∀ n, o.dst = some n → n < E.N)
    {K : Act → World → Prop} {Q : Exit → Act → World → Prop} (hK : ∀ G' a' w', Abs E G' L' a' w' → K a' w') : wpOp P ops Q i K a w := by
  unfold wpOp
  rw [hi]
  simp only
  unfold gPr at h
  split at h
  · rename_i hg
    have hw : Region.wanted o (yielded ops a.tmps) = true := by simp [Region.wanted, hg]
    rw [if_pos hw]
    exact .inl (op_sound hlay hΓ h ha hn K Q hK)
  · rename_i j want hg
    split at h
    · cases h
    · rename_i t ht
      cases h with
      | rd h =>
        revert h
        dsimp only
        split
        · rename_i b hl
          intro h
          have hv := DV_bool (ha.tmp t _ hl).2
          have htn := (ha.tmp t _ hl).1
          have hy : yielded ops a.tmps j = some b := by
            unfold guardT at ht
            unfold yielded
            rw [ht]
            have : a.tmps[t]? = some (.bool b) := by
              have hlt : t < a.tmps.size := by rw [ha.size]; exact htn
              rw [Array.getElem?_eq_getElem hlt]
              rw [Array.getD_eq_getD_getElem?, Array.getElem?_eq_getElem hlt] at hv
              simpa using hv
            simp [this]
          cases h with
          | brT hb h =>
            have hw : Region.wanted o (yielded ops a.tmps) = true := by
              have := eq_of_beq hb
              subst this
              simp [Region.wanted, hg, hy]
            rw [if_pos hw]
            exact .inl (op_sound hlay hΓ h ha hn K Q hK)
          | brF hb h =>
            have hw : Region.wanted o (yielded ops a.tmps) = false := by
              simp only [Region.wanted, hg, hy]
              simpa using hb
            rw [if_neg (by simp [hw])]
            exact hK _ _ _ (putD_ok h ha hn ⟨[], rfl, .nil⟩)
        · rename_i hl
          intro h
          obtain ⟨vs, hv, hnil⟩ := (ha.tmp t _ hl).2
          cases hnil
          have htn := (ha.tmp t _ hl).1
          have hy : yielded ops a.tmps j = none := by
            unfold guardT at ht
            unfold yielded
            rw [ht]
            have : a.tmps[t]? = some (.tuple #[]) := by
              have hlt : t < a.tmps.size := by rw [ha.size]; exact htn
              rw [Array.getElem?_eq_getElem hlt]
              rw [Array.getD_eq_getD_getElem?, Array.getElem?_eq_getElem hlt] at hv
              simpa using hv
            simp [this]
          have hw : Region.wanted o (yielded ops a.tmps) = false := by
            simp [Region.wanted, hg, hy]
          rw [if_neg (by simp [hw])]
          exact hK _ _ _ (putD_ok h ha hn ⟨[], rfl, .nil⟩)
        · intro h; cases h
end

/-! ### Regions -/

/-- What each operation reads and writes, one behind the other. -/
inductive Chain (Γ : FuncId → List D → D → Prop) (lay : Lay) (ops : Array Oper) : List Oper → Mem → Mem → List (List Loc × List Loc) → Prop
  | nil {L} : Chain Γ lay ops [] L L []
  | cons {o l L L1 L' rs ws fs} (h : Run Γ (gPr lay ops o) L L1 rs ws) (k : Chain Γ lay ops l L1 L' fs) : Chain Γ lay ops (o :: l) L L' ((rs, ws) :: fs)

section
variable {P : Program} {Γ : FuncId → List D → D → Prop} {E : Env} {lay : Lay} {ops : Array Oper} {Q : Exit → Act → World → Prop}

theorem chain_text (hlay : LayOK P lay) (hΓ : ∀ f ds d, Γ f ds d → Means P lay f ds d) : ∀ (l : List Oper) (i : Nat) {L L' : Mem} {fs} {G : Gh} {a : Act} {w : World}, Chain Γ lay ops l L L' fs → (∀ j, j < l.length → ops[i + j]? = l[j]?) →
    (∀ o ∈ l, ∀ n, o.dst = some n → n < E.N) → Abs E G L a w → (∀ G' a' w', Abs E G' L' a' w' → Q .normal a' w') → wpOps P ops Q (List.range' i l.length) a w
  | [], _, _, _, _, _, _, _, h, _, _, ha, hQ => by cases h; exact hQ _ _ _ ha
  | o :: l, i, L, L', _, G, a, w, h, hi, hn, ha, hQ => by
    cases h with
    | cons h k =>
      rw [List.length_cons, List.range'_succ, wpOps_cons]
      refine gop_sound hlay hΓ (o := o) (by simpa using hi 0 (by simp)) h ha (hn o (by simp)) fun G' a' w' ha' => ?_
      exact chain_text hlay hΓ l (i + 1) k (fun j hj => by have := hi (j + 1) (by simp; omega); simpa [Nat.add_assoc, Nat.add_comm 1 j] using this) (fun o' ho => hn o' (by simp [ho])) ha' hQ

/-- A region in the order of the text. -/
theorem region_text (hlay : LayOK P lay) (hΓ : ∀ f ds d, Γ f ds d → Means P lay f ds d) {id : Nat} {L L' : Mem} {fs} {G : Gh} {a : Act} {w : World} (h : Chain Γ lay ops ops.toList L L' fs)
    (hn : ∀ o ∈ ops.toList, ∀ n, o.dst = some n → n < E.N) (ha : Abs E G L a w) (hQ : ∀ G' a' w', Abs E G' L' a' w' → Q .normal a' w') : (Code.region id ops false).wp P Q a w := by
  refine wp_region ?_
  have := chain_text (Q := Q) hlay hΓ ops.toList 0 h (fun j hj => by simp) hn ha hQ
  rw [List.range_eq_range']
  simpa using this

def clash (a b : List Loc) : Bool := a.any fun l => b.any fun m => l.beq m

theorem clash_false {a b : List Loc} (h : clash a b = false) : ∀ l, l ∈ a → l ∉ b := by
  intro l h1 h2
  simp only [clash, List.any_eq_false] at h
  have := h l h1
  simp only [List.any_eq_true, not_exists, not_and] at this
  exact this l h2 (Loc.beq_self l)

def maskOf (acc : List Nat) (o : Oper) : Nat :=
  o.after.toList.foldl (fun s e => bif Region.binds .any e then s ||| 2 ^ e.on ||| acc.getD e.on 0 else s) 0

def masksFrom : List Oper → List Nat → List Nat
  | [], acc => acc
  | o :: rest, acc => masksFrom rest (acc ++ [maskOf acc o])

def edgesOK : List Oper → Nat → Bool
  | [], _ => true
  | o :: rest, i => o.after.toList.all (fun e => !Region.binds .any e || Nat.blt e.on i) && edgesOK rest (i + 1)

def pairOK (mask i : Nat) (x y : List Loc × List Loc) : Bool := mask.testBit i || (!(clash x.2 y.1) && !(clash x.2 y.2) && !(clash y.2 x.1))

def pairsOK (mask : Nat) (y : List Loc × List Loc) : List (List Loc × List Loc) → Nat → Bool
  | [], _ => true
  | x :: rest, i => pairOK mask i x y && pairsOK mask y rest (i + 1)

def indepFrom (masks : List Nat) (all : List (List Loc × List Loc)) : List (List Loc × List Loc) → Nat → Bool
  | [], _ => true
  | y :: rest, j => pairsOK (masks.getD j 0) y (all.take j) 0 && indepFrom masks all rest (j + 1)

/-- Operations that have no order write to nothing that the other one reads or writes. -/
def indep (ops : List Oper) (fs : List (List Loc × List Loc)) : Bool := edgesOK ops 0 && indepFrom (masksFrom ops []) fs fs 0

theorem pairsOK_get {mask : Nat} {y : List Loc × List Loc} : ∀ {l : List (List Loc × List Loc)} {i : Nat}, pairsOK mask y l i = true → ∀ k x, l[k]? = some x → pairOK mask (i + k) x y = true
  | [], _, _, k, x, h => by simp at h
  | z :: l, i, h, k, x, hk => by
    simp only [pairsOK, Bool.and_eq_true] at h
    cases k with
    | zero => simp at hk; subst hk; exact h.1
    | succ k =>
      simp at hk
      have := pairsOK_get h.2 k x hk
      rwa [show i + (k + 1) = i + 1 + k from by omega]

theorem indepFrom_get {masks : List Nat} {all : List (List Loc × List Loc)} : ∀ {l : List (List Loc × List Loc)} {j : Nat}, indepFrom masks all l j = true → ∀ k y, l[k]? = some y → ∀ i x, i < j + k → all[i]? = some x → pairOK (masks.getD (j + k) 0) i x y = true
  | [], _, _, k, y, h, _, _, _, _ => by simp at h
  | z :: l, j, h, k, y, hk, i, x, hi, hx => by
    simp only [indepFrom, Bool.and_eq_true] at h
    cases k with
    | zero =>
      simp at hk
      subst hk
      have := pairsOK_get h.1 i x (by rw [List.getElem?_take, if_pos (by simpa using hi)]; exact hx)
      simpa using this
    | succ k =>
      simp at hk
      have := indepFrom_get h.2 k y hk i x (by omega) hx
      rwa [show j + (k + 1) = j + 1 + k from by omega]

theorem edgesOK_get : ∀ {l : List Oper} {i : Nat}, edgesOK l i = true → ∀ k o, l[k]? = some o → ∀ e ∈ o.after, Region.binds .any e = true → e.on < i + k
  | [], _, _, k, o, h => by simp at h
  | z :: l, i, h, k, o, hk => by
    simp only [edgesOK, Bool.and_eq_true, List.all_eq_true, Bool.or_eq_true, Bool.not_eq_true'] at h
    intro e he hb
    cases k with
    | zero =>
      simp at hk
      subst hk
      rcases h.1 e (by simpa using he) with h1 | h1
      · rw [h1] at hb; cases hb
      · exact Nat.le_of_ble_eq_true h1
    | succ k =>
      simp at hk
      have := edgesOK_get h.2 k o hk e he hb
      omega

/-- The bits of a mask: what stands ahead, directly or behind others. -/
theorem maskOf_bit {acc : List Nat} {o : Oper} {i : Nat} (h : (maskOf acc o).testBit i = true) : ∃ e ∈ o.after, Region.binds .any e = true ∧ (e.on = i ∨ (acc.getD e.on 0).testBit i = true) := by
  unfold maskOf at h
  have key : ∀ (l : List Edge) (s : Nat), (l.foldl (fun s e => bif Region.binds .any e then s ||| 2 ^ e.on ||| acc.getD e.on 0 else s) s).testBit i = true →
      s.testBit i = true ∨ ∃ e ∈ l, Region.binds .any e = true ∧ (e.on = i ∨ (acc.getD e.on 0).testBit i = true) := by
    intro l
    induction l with
    | nil => intro s h; exact .inl h
    | cons e l ih =>
      intro s h
      rcases ih _ h with h1 | ⟨e', he', h2⟩
      · dsimp only at h1
        cases hb : Region.binds .any e with
        | false => rw [hb] at h1; exact .inl h1
        | true =>
          rw [hb, cond_true] at h1
          simp only [Nat.testBit_or, Bool.or_eq_true, Nat.testBit_two_pow, decide_eq_true_eq] at h1
          rcases h1 with (h1 | h1) | h1
          · exact .inl h1
          · exact .inr ⟨e, by simp, hb, .inl h1⟩
          · exact .inr ⟨e, by simp, hb, .inr h1⟩
      · exact .inr ⟨e', by simp [he'], h2⟩
  rcases key _ 0 h with h1 | ⟨e, he, h2⟩
  · simp at h1
  · exact ⟨e, by simpa using he, h2⟩

theorem masksFrom_get : ∀ (l : List Oper) (acc : List Nat) (k : Nat), (k < acc.length → (masksFrom l acc).getD k 0 = acc.getD k 0) ∧
    ∀ o, l[k]? = some o → ∃ acc', acc'.length = acc.length + k ∧ (masksFrom l acc).getD (acc.length + k) 0 = maskOf acc' o ∧ ∀ j, j < acc'.length → acc'.getD j 0 = (masksFrom l acc).getD j 0
  | [], acc, k => ⟨fun _ => rfl, fun o h => by simp at h⟩
  | z :: l, acc, k => by
    have ih := fun k => masksFrom_get l (acc ++ [maskOf acc z]) k
    have hold : ∀ j, j < acc.length → (masksFrom (z :: l) acc).getD j 0 = acc.getD j 0 := by
      intro j hj
      simp only [masksFrom]
      rw [(ih j).1 (by simp; omega)]
      simp [List.getD, List.getElem?_append_left hj]
    refine ⟨hold k, fun o ho => ?_⟩
    cases k with
    | zero =>
      simp at ho
      subst ho
      refine ⟨acc, rfl, ?_, fun j hj => (hold j hj).symm⟩
      simp only [masksFrom, Nat.add_zero]
      rw [(ih acc.length).1 (by simp)]
      simp [List.getD]
    | succ k =>
      simp at ho
      obtain ⟨acc', h1, h2, h3⟩ := (ih k).2 o ho
      simp only [List.length_append, List.length_singleton] at h1 h2
      refine ⟨acc', by omega, ?_, fun j hj => h3 j hj⟩
      rw [show acc.length + (k + 1) = acc.length + 1 + k from by omega]
      exact h2

end
end Go.Proofs.YtllhidkadhoipaaDoor.Ab
