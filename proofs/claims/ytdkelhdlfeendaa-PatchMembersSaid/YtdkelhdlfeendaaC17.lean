/- What a function's run tells of a call of it; what is known of the functions that it calls. For every program whose types are as told. -/
import Derived.Test.YtdkelhdlfeendaaC16
namespace Go.Proofs.Ytdkelhdlfeendaa.Ab
open Go Go.RowKit

/-- Some values of these types. -/
@[reducible] def Res : List Ty → Type
  | [] => Unit
  | [τ] => τ.I
  | τ :: σ :: r => τ.I × Res (σ :: r)

def argDs : (τs : List Ty) → Res τs → List D
  | [], _ => []
  | [τ], x => [.val τ x]
  | τ :: σ :: r, x => .val τ x.1 :: argDs (σ :: r) x.2

def resD : (τs : List Ty) → Res τs → D
  | [τ], x => .val τ x
  | τs, x => .tup (argDs τs x)

def asArgs : (τs : List Ty) → List D → Option (Res τs)
  | [], [] => some ()
  | [τ], [d] => d.asTy τ
  | τ :: σ :: r, d :: ds => match d.asTy τ with
    | some x => match asArgs (σ :: r) ds with
      | some y => some (x, y)
      | none => none
    | none => none
  | _, _ => none

def args0 : Nat → List D → St
  | _, [] => []
  | i, d :: ds => (.tmp i, .d d) :: args0 (i + 1) ds

def sealBox (id g : Nat) : Nat → Nat → Pr → Pr
  | _, 0, p => p
  | i, n + 1, p => .rd (.cell id g i) fun
    | some (.d d) => sealCell d fun d' => .wr (.cell id g i) (.d d') (sealBox id g (i + 1) n p)
    | _ => .fail

/-- What is to be returned, sealed. -/
def sealRes (lay : Lay) : List ResultVar → Pr
  | [] => .ret
  | .tmp t :: rs => evO (.tmp t) fun d => sealD d fun d' => .wr (.tmp t) (.d d') (sealRes lay rs)
  | .cell a t :: rs => evO (.tmp a) fun
    | .ptr id g off => match lay t with
      | some i => .rd (.obj id) fun
        | some (.box g') => .gd (Nat.beq g g') (sealBox id g off i.sz (sealRes lay rs))
        | _ => .fail
      | none => .fail
    | _ => .fail

def getCells (st : St) (id g : Nat) : Nat → Nat → Option (List D)
  | _, 0 => some []
  | i, n + 1 => match st.get (.cell id g i) with
    | some (.d d) => match getCells st id g (i + 1) n with
      | some ds => some (d :: ds)
      | none => none
    | _ => none

def rdRes1 (lay : Lay) (st : St) : ResultVar → Option D
  | .tmp t => match st.get (.tmp t) with
    | some (.d d) => some d
    | _ => none
  | .cell a t => match st.get (.tmp a) with
    | some (.d (.ptr id g off)) => match lay t with
      | some i => match st.get (.obj id) with
        | some (.box g') => match Nat.beq g g' with
          | true => match getCells st id g off i.sz with
            | some ds => mkD (isAggD i.desc) ds
            | none => none
          | false => none
        | _ => none
      | none => none
    | _ => none

def rdRes (lay : Lay) (st : St) : List ResultVar → Option (List D)
  | [] => some []
  | r :: rs => match rdRes1 lay st r with
    | some d => match rdRes lay st rs with
      | some ds => some (d :: ds)
      | none => none
    | none => none

def outK (lay : Lay) (rs : List ResultVar) (τs : List Ty) (st : St) : Option (Res τs) :=
  exec (R := Res τs) (fun _ _ _ => none) (sealRes lay rs) st [] [] fun st' _ _ => match rdRes lay st' rs with
    | some ds => asArgs τs ds
    | none => none

def fnK (lay : Lay) (rs : List ResultVar) (τs : List Ty) : Ex → St → Option (Res τs)
  | .normal, st => outK lay rs τs st
  | .ret, st => outK lay rs τs st
  | .exit _, _ => none

section
variable {P : Program} {E : Env} {G : Gh} {L L' : Mem} {a : Act} {w : World}

theorem DV.argDs : ∀ {τs : List Ty} {ds : List D} {x : Res τs} {vs : List Value}, asArgs τs ds = some x → All2 (DV G L w) ds vs → All2 (DV G L w) (Ab.argDs τs x) vs
  | [], [], _, _, _, .nil => .nil
  | [τ], [d], x, [v], h, .cons hd .nil => .cons (asTy_dv h hd) .nil
  | τ :: σ :: r, d :: ds, x, v :: vs, h, .cons hd hds => by
    simp only [asArgs] at h
    split at h
    · rename_i y hy
      split at h
      · rename_i z hz
        cases h
        exact .cons (asTy_dv hy hd) (DV.argDs hz hds)
      · cases h
    · cases h
  | [], _ :: _, _, _, h, _ => by cases h
  | [_], [], _, _, h, _ => by cases h
  | [_], _ :: _ :: _, _, _, h, _ => by cases h
  | _ :: _ :: _, [], _, _, h, _ => by cases h

theorem CallsAbs.asArgs {f : FuncId} {τs : List Ty} {ds : List D} {x : Res τs} {d : D} (h : asArgs τs ds = some x) (hc : CallsAbs P f (Ab.argDs τs x) d) : CallsAbs P f ds d :=
  ⟨hc.1, fun S w vs hS hvs => hc.2 S w vs hS (DV.argDs h hvs)⟩

/-- One function more is known. -/
def ent {R : Type} (f : FuncId) (τs σs : List Ty) (g : Res τs → Option (Res σs)) (next : Ctx R) : Ctx R := fun f' ds k =>
  match Nat.beq f f' with
  | true => match asArgs τs ds with
    | some x => match g x with
      | some r => k (resD σs r)
      | none => none
    | none => none
  | false => next f' ds k

def noFns {R : Type} : Ctx R := fun _ _ _ => none

theorem noFns_ok {R : Type} : CtxOK P (noFns (R := R)) := fun _ _ _ _ h => by cases h

/-- What a Lean function tells of a function's calls. -/
def Told (P : Program) (f : FuncId) (τs σs : List Ty) (g : Res τs → Option (Res σs)) : Prop := ∀ x r, g x = some r → CallsAbs P f (argDs τs x) (resD σs r)

theorem ent_ok {R : Type} {f : FuncId} {τs σs : List Ty} {g : Res τs → Option (Res σs)} {next : Ctx R} (h : Told P f τs σs g) (hn : CtxOK P next) : CtxOK P (ent f τs σs g next) := by
  intro f' ds k r hr
  unfold ent at hr
  cases hb : Nat.beq f f' with
  | false => rw [hb] at hr; exact hn _ _ _ _ hr
  | true =>
    rw [hb] at hr
    have := beq_nat hb
    subst this
    simp only at hr
    split at hr
    · rename_i x hx
      split at hr
      · rename_i y hy
        exact ⟨_, (h x y hy).asArgs hx, hr⟩
      · cases hr
    · cases hr

theorem args0_get {n : Nat} {c : Cell} : ∀ {ds : List D} {i : Nat}, (args0 i ds).get (.tmp n) = some c → ∃ d, c = .d d ∧ i ≤ n ∧ ds[n - i]? = some d
  | [], _, h => by cases h
  | d :: ds, i, h => by
    simp only [args0, St.get, Loc.beq] at h
    split at h
    · rename_i hb
      cases h
      have := beq_nat hb
      subst this
      exact ⟨d, rfl, Nat.le_refl _, by simp⟩
    · obtain ⟨d', e, hle, hg⟩ := args0_get h
      refine ⟨d', e, by omega, ?_⟩
      rw [show n - i = (n - (i + 1)) + 1 by omega]
      simpa using hg

theorem args0_obj {l : Loc} (hl : ∀ n, l ≠ .tmp n) : ∀ {ds : List D} {i : Nat}, (args0 i ds).get l = none
  | [], _ => rfl
  | d :: ds, i => by
    simp only [args0, St.get]
    rw [Loc.beq_ne (fun e => hl i e.symm)]
    exact args0_obj hl

theorem All2.get {α β : Type} {R : α → β → Prop} {l : List α} {m : List β} (h : All2 R l m) : ∀ {i : Nat} {x : α}, l[i]? = some x → ∃ y, m[i]? = some y ∧ R x y := by
  induction h with
  | nil => intro i x h; simp at h
  | cons r _ ih =>
    intro i x h
    cases i with
    | zero => simp at h; subst h; exact ⟨_, by simp, r⟩
    | succ i => simpa using ih (by simpa using h)

theorem All2.length {α β : Type} {R : α → β → Prop} {l : List α} {m : List β} (h : All2 R l m) : l.length = m.length := by
  induction h with
  | nil => rfl
  | cons _ _ ih => simp [ih]

/-- At a function's beginning. -/
theorem Abs.start {S : Nat → Prop} {ds : List D} {vs : List Value} {N : Nat} (hS : ∀ b, S b → b < w.heap.size) (hvs : All2 (SV S w) ds vs) (hN : ds.length ≤ N) :
    Abs ⟨N, w.heap.size, fun _ => False, S, w⟩ ⟨fun _ => 0, fun _ => .nilFunc, S⟩ (args0 0 ds).get { tmps := vs.toArray ++ Array.replicate (N - vs.toArray.size) undef, defers := [] } w := by
  have hlen := hvs.length
  have hno : ∀ id, (args0 0 ds).get (.obj id) = none := fun id => args0_obj (by simp)
  refine ⟨⟨?_, ?_, ?_, ?_, ?_, ?_, ?_, hS, fun b _ => ⟨fun h => h, fun h => .inl h⟩, Under.refl _ _ _, rfl⟩, rfl, ?_, ?_⟩
  · intro id off d g _ h; rw [hno] at h; cases h
  · intro id g h; rw [hno] at h; cases h
  · intro id g e τ xs h; rw [hno] at h; cases h
  · intro id g τ xs h; rw [hno] at h; cases h
  · intro id g off c h; rw [args0_obj (by simp)] at h; cases h
  · intro id b h; simp [ownB, hno] at h
  · intro i j b _ h; simp [ownB, hno] at h
  · simp; omega
  · intro n d h
    obtain ⟨d', e, _, hg⟩ := args0_get h
    cases e
    rw [Nat.sub_zero] at hg
    obtain ⟨v, hv, hd⟩ := hvs.get hg
    have hlt : n < vs.length := (List.getElem?_eq_some_iff.1 hv).1
    refine ⟨by show n < N; omega, ?_⟩
    have : (vs.toArray ++ Array.replicate (N - vs.toArray.size) undef).getD n undef = v := by
      rw [Array.getD_eq_getD_getElem?, Array.getElem?_append_left (by simpa using hlt)]
      simp [hv]
    rw [this]
    exact hd.mono (step_none _ _ _) (Keep.refl S w)

/-- What a function gives back. -/
def packV : List Value → Value
  | [v] => v
  | vs => .tuple vs.toArray

theorem results_all {fn : Func} {rs : List ResultVar} (h : fn.results = rs.toArray) {tmps : Array Value} {vs : List Value}
    (hv : All2 (fun r v => (match r with | .tmp t => (pure (tmps.getD t undef) : Sem Value) | .cell a t => do loadVar t (← asAddr (tmps.getD a undef))).run P w = .ok v w) rs vs) :
    (results fn tmps).run P w = .ok (packV vs) w := by
  have key : ∀ (f : ResultVar → Sem Value) {rs : List ResultVar} {vs : List Value}, All2 (fun r v => (f r).run P w = .ok v w) rs vs → (rs.mapM f).run P w = .ok vs w := by
    intro f rs vs h
    induction h with
    | nil => simp
    | cons h _ ih =>
      rw [List.mapM_cons, Sem.run_bind, h, Result.andThen_ok, Sem.run_bind, ih]
      rfl
  unfold results
  have hk := key _ hv
  rw [h, Sem.run_bind, List.mapM_toArray, Sem.run_map]
  refine (congrArg (fun r : Result (List Value) => (r.andThen fun a w' => Result.ok a.toArray w').andThen fun a w' => Sem.run P (pure (if h : a.size = 1 then a[0] else Value.tuple a)) w') hk).trans ?_
  rcases vs with _ | ⟨t, _ | ⟨u, ts⟩⟩ <;> simp [packV]

theorem dw_of_dv {τ : Ty} {x : τ.I} {v : Value} (h : DV G L w (.val τ x) v) : DW G L w (.val τ x) v := h

theorem resD_ok : ∀ {τs : List Ty} {x : Res τs} {vs : List Value}, All2 (DV G L w) (argDs τs x) vs → DV G L w (resD τs x) (packV vs)
  | [], _, [], .nil => ⟨[], rfl, .nil⟩
  | [τ], x, [v], .cons h .nil => h
  | τ :: σ :: r, x, v :: u :: vs, h => by
    refine ⟨v :: u :: vs, rfl, ?_⟩
    have all : ∀ {τs : List Ty} {x : Res τs} {vs : List Value}, All2 (DV G L w) (argDs τs x) vs → All2 (DW G L w) (argDs τs x) vs := by
      intro τs
      induction τs with
      | nil => intro x vs h; cases h; exact .nil
      | cons τ r ih =>
        intro x vs h
        cases r with
        | nil => cases h with | cons h1 h2 => cases h2; exact .cons h1 .nil
        | cons σ r => cases h with | cons h1 h2 => exact .cons h1 (ih h2)
    exact all h
  | τ :: σ :: r, x, [v], h => by
    cases h with
    | cons h1 h2 =>
      cases r with
      | nil => cases h2
      | cons _ _ => cases h2

/-- A cell that is told otherwise. -/
theorem Abs.recell (h : Abs E G L a w) {id g off : Nat} {d d' : D} {v0 : Value} (hc : L (.cell id g off) = some (.d d)) (ho : L (.obj id) = some (.box g)) (hv0 : w.cell? ⟨G.blk id, off, none⟩ = some v0) (hd : DC1 G L w d' v0) : Abs E G (upd L (.cell id g off) (.d d')) a w := by
  have hob : ∀ j, upd L (.cell id g off) (.d d') (.obj j) = L (.obj j) := fun j => by simp [upd]
  have hs : Step G L G (upd L (.cell id g off) (.d d')) := Step.of_obj hob
  have hk := Keep.refl G.S w
  have how : ∀ j, ownB G (upd L (.cell id g off) (.d d')) j = ownB G L j := fun j => ownB_congr (hob j) rfl rfl
  refine ⟨⟨?_, fun j k h1 => h.heap.box j k (by rw [← hob]; exact h1), fun j k e τ xs h1 => h.heap.vec j k e τ xs (by rw [← hob]; exact h1), fun j k τ xs h1 => h.heap.sl j k τ xs (by rw [← hob]; exact h1), ?_, fun j b h1 => h.heap.own j b (by rw [← how]; exact h1), fun i j b hij h1 => by rw [how] at h1 ⊢; exact h.heap.apart i j b hij h1, h.heap.sealed, h.heap.old, h.heap.under, h.heap.start⟩, h.defers, h.size, ?_⟩
  · intro id1 off1 d1 g1 h1 h2
    rw [hob] at h2
    unfold upd at h1
    split at h1
    · rename_i e
      cases h1
      cases e
      exact ⟨v0, hv0, hd.mono hs hk⟩
    · obtain ⟨v, hv, hdv⟩ := h.heap.cell id1 off1 d1 g1 h1 h2
      exact ⟨v, hv, hdv.mono hs hk⟩
  · intro id1 g1 off1 c h1
    unfold upd at h1
    rw [hob]
    split at h1
    · rename_i e
      cases e
      exact h.heap.cgen id g off _ hc
    · exact h.heap.cgen id1 g1 off1 c h1
  · intro n d1 h1
    have : L (.tmp n) = some (.d d1) := by simpa [upd] using h1
    exact ⟨(h.tmp n d1 this).1, (h.tmp n d1 this).2.mono hs hk⟩

theorem evO_lt {t : Tmp} {k : D → Pr} {rs ws : List Loc} {Γ : FuncId → List D → D → Prop} (h : Run Γ (evO (.tmp t) k) L L' rs ws) (ha : Abs E G L a w) : t < E.N := by
  simp only [evO] at h
  cases h with
  | rd h =>
    revert h
    dsimp only
    split
    · rename_i d0 hd0
      intro _
      exact (ha.tmp t d0 hd0).1
    · intro h; cases h

theorem put_same (ha : Abs E G L a w) {t : Tmp} (hlt : t < E.N) : a.put (some t) (a.eval (.tmp t)) = a := by
  have hsz : t < a.tmps.size := by rw [ha.size]; exact hlt
  cases a with
  | mk tmps defers =>
    simp only [Act.put, Act.eval, Act.mk.injEq, and_true]
    apply Array.ext
    · simp
    · intro i h1 h2
      rw [Array.getElem_setIfInBounds]
      split
      · rename_i e
        subst e
        simp
      · rfl

theorem sealBox_ok {Γ : FuncId → List D → D → Prop} {id g : Nat} {p : Pr} : ∀ {n i : Nat} {G : Gh} {L L' : Mem} {rs ws : List Loc}, Run Γ (sealBox id g i n p) L L' rs ws → L (.obj id) = some (.box g) → Abs E G L a w → ∃ G' L1 rs' ws', Abs E G' L1 a w ∧ Run Γ p L1 L' rs' ws'
  | 0, _, G, L, _, rs, ws, h, _, ha => ⟨G, L, rs, ws, ha, h⟩
  | n + 1, i, G, L, L', rs, ws, h, ho, ha => by
    simp only [sealBox] at h
    cases h with
    | rd h =>
      revert h
      dsimp only
      split
      · rename_i d hd
        intro h
        obtain ⟨v, hv, hdv⟩ := ha.heap.cell id i d g hd ho
        obtain ⟨d', G1, L1, rs1, ws1, h1, a1, k1, k2, k3, k4⟩ := sealCell_ok2 h ha hdv
        cases h1 with
        | wr h1 =>
          have ho1 := k4 id g ho
          have hc1 : L1 (.cell id g i) = some (.d d) := by rw [k3 _ (by simp)]; exact hd
          have hb : G1.blk id = G.blk id := by
            obtain ⟨c', e1, e2, e3⟩ := a1.step id (.box g) ho
            rw [ho1] at e1
            cases e1
            exact (e3 rfl).2.1
          have hv1 : w.cell? ⟨G1.blk id, i, none⟩ = some v := by rw [hb]; exact hv
          have h2 := a1.abs.recell (d' := d') hc1 ho1 (v0 := v) hv1 k1
          exact sealBox_ok h1 (by simpa [upd] using ho1) h2
      · intro h; cases h

theorem sealRes_ok {lay : Lay} {Γ : FuncId → List D → D → Prop} : ∀ {ts : List ResultVar} {G : Gh} {L L' : Mem} {rs ws : List Loc}, Run Γ (sealRes lay ts) L L' rs ws → Abs E G L a w → ∃ G', Abs E G' L' a w
  | [], _, _, _, _, _, .ret, ha => ⟨_, ha⟩
  | .tmp t :: ts, G, L, L', rs, ws, h, ha => by
    simp only [sealRes] at h
    have hlt := evO_lt h ha
    obtain ⟨d, rs1, h1, hd⟩ := evO_ok h ha
    obtain ⟨d', G1, L1, rs2, ws2, h2, a1, hd'⟩ := sealD_ok h1 ha hd
    cases h2 with
    | wr h2 =>
      have hp := a1.abs.put hlt hd'
      rw [put_same ha hlt] at hp
      exact sealRes_ok h2 hp
  | .cell t ty :: ts, G, L, L', rs, ws, h, ha => by
    simp only [sealRes] at h
    obtain ⟨d, rs1, h1, hd⟩ := evO_ok h ha
    revert h1
    split
    · rename_i id g off
      split
      · intro h1
        cases h1 with
        | rd h1 =>
          revert h1
          dsimp only
          split
          · rename_i g' hl
            intro h1
            cases h1 with
            | gd hb h1 =>
              have := beq_nat hb
              subst this
              obtain ⟨G1, L1, rs2, ws2, a1, h2⟩ := sealBox_ok h1 hl ha
              exact sealRes_ok h2 a1
          · intro h; cases h
      · intro h; cases h
    · intro h; cases h

theorem getCells_ok {st : St} {id g : Nat} : ∀ {n i : Nat} {ds : List D}, getCells st id g i n = some ds → ds.length = n ∧ ∀ j d, ds[j]? = some d → st.get (.cell id g (i + j)) = some (.d d)
  | 0, _, _, h => by cases h; simp
  | n + 1, i, ds, h => by
    simp only [getCells] at h
    split at h
    · rename_i d hd
      split at h
      · rename_i ds' hds
        cases h
        obtain ⟨h1, h2⟩ := getCells_ok hds
        refine ⟨by simp [h1], fun j d' hj => ?_⟩
        cases j with
        | zero => simp at hj; subst hj; exact hd
        | succ j => rw [show i + (j + 1) = i + 1 + j by omega]; exact h2 j d' (by simpa using hj)
      · cases h
    · cases h

theorem rdRes_ok {lay : Lay} (hlay : LayOK P lay) {st : St} (ha : Abs E G st.get a w) : ∀ {rs : List ResultVar} {ds : List D}, rdRes lay st rs = some ds →
    ∃ vs, All2 (DV G st.get w) ds vs ∧ All2 (fun r v => (match r with | .tmp t => (pure (a.tmps.getD t undef) : Sem Value) | .cell x t => do loadVar t (← asAddr (a.tmps.getD x undef))).run P w = .ok v w) rs vs
  | [], _, h => by cases h; exact ⟨[], .nil, .nil⟩
  | r :: rs, ds, h => by
    simp only [rdRes] at h
    split at h
    · rename_i d hd
      split at h
      · rename_i ds' hds
        cases h
        obtain ⟨vs, k1, k2⟩ := rdRes_ok hlay ha hds
        cases r with
        | tmp t =>
          simp only [rdRes1] at hd
          split at hd
          · rename_i d0 hd0
            cases hd
            exact ⟨_ :: vs, .cons (ha.tmp t _ hd0).2 k1, .cons (by simp) k2⟩
          · cases hd
        | cell x t =>
          simp only [rdRes1] at hd
          split at hd
          · rename_i id g off hx
            split at hd
            · rename_i i hi
              split at hd
              · rename_i g' hl
                split at hd
                · rename_i hb
                  have := beq_nat hb
                  subst this
                  split at hd
                  · rename_i cs hcs
                    obtain ⟨hlen, hcells⟩ := getCells_ok hcs
                    have hd1 := DV_one rfl (ha.tmp x _ hx).2 (by simp) (by simp) (by simp)
                    obtain ⟨us, hus, hmem⟩ := ha.heap.cells hl cs off hcells
                    obtain ⟨v, hv, hw⟩ := run_loadVar_lay hlay hi (x := ⟨G.blk id, off, none⟩) (vs := us) (by rw [hus.length, hlen]) (fun j u hj => by rw [add_none]; exact hmem j u hj) (hus.plain (mkD_solid hd))
                    refine ⟨v :: vs, .cons (mkD_ok hd hus hw) k1, .cons ?_ k2⟩
                    have hp := ptr_at hd1 hl
                    simp [hp, asAddr, hv]
                  · cases hd
                · cases hd
              · cases hd
            · cases hd
          · cases hd
      · cases h
    · cases h

/-- A call of a function whose run is known. -/
theorem fn_sound {lay : Lay} (hlay : LayOK P lay) (hm : P.follows .mixedOrders = true) {f : FuncId} {fn : Func} {c : Code} {ts : List ResultVar} {τs σs : List Ty} {Γ : Ctx (Res σs)} {pl : Pl (Res σs)} {x : Res τs} {r : Res σs}
    (hf : P.funcs[f]? = some fn) (hb : fn.body = some c) (hn : (fn.name == "runtime.NumGoroutine") = false) (hr : fn.results = ts.toArray) (hN : Nat.ble (argDs τs x).length fn.ntmps = true)
    (hΓ : CtxOK P Γ) (hpl : PlOK Γ lay fn.ntmps pl c (fnK lay ts σs)) (h : ev Γ lay fn.ntmps c pl (args0 0 (argDs τs x)) (fnK lay ts σs) = some r) : CallsAbs P f (argDs τs x) (resD σs r) := by
  refine ⟨fun args w => ?_, fun S w vs hS hvs => ?_⟩
  · unfold callFunc
    have hn' : ¬ fn.name = "runtime.NumGoroutine" := by simpa using hn
    simp [hf, hn', hb]
  · have hstart := Abs.start hS hvs (Nat.le_of_ble_eq_true hN)
    refine calls_of_wp hf hb ?_
    let E : Env := ⟨fn.ntmps, w.heap.size, fun _ => False, S, w⟩
    refine ev_ok (E := E) hlay hm hΓ c pl _ _ _ hpl h ?_ _ _ _ hstart
    have fin : ∀ st', outK lay ts σs st' = some r → ∀ G a w', Abs E G st'.get a w' → a.defers = [] ∧ ∃ v, (results fn a.tmps).run P w' = .ok v w' ∧
        ∃ v' S', Ending.returned v = .returned v' ∧ SV S' w' (resD σs r) v' ∧ Under w.heap.size (fun _ => False) w w' ∧ (∀ b, S b → S' b) ∧ (∀ b, S' b → b < w'.heap.size ∧ (b < w.heap.size → S b)) := by
      intro st' ho G a w' ha
      unfold outK at ho
      obtain ⟨st2, rs, ws, hrun, hk⟩ := exec_ok (P := P) (fun _ _ _ _ h => by cases h) ho
      obtain ⟨G2, ha2⟩ := sealRes_ok hrun ha
      split at hk
      · rename_i ds hds
        obtain ⟨us, hus, hres⟩ := rdRes_ok hlay ha2 hds
        refine ⟨ha.defers, _, results_all hr hres, ?_⟩
        have h1 := DV.argDs hk hus
        have h2 := resD_ok h1
        refine ⟨_, G2.S, rfl, ?_, ha2.heap.under, fun b hb => (ha2.heap.old b (hS b hb)).1 hb, fun b hb => ⟨ha2.heap.sealed b hb, fun hlt => ?_⟩⟩
        · have conv : ∀ {d : D} {v : Value}, (∃ τ x, d = .val τ x) → DV G2 st2.get w' d v → SV G2.S w' d v := by
            rintro d v ⟨τ, x, rfl⟩ hd
            exact hd
          have all : ∀ {τs : List Ty} {x : Res τs} {vs : List Value}, All2 (DV G2 st2.get w') (argDs τs x) vs → All2 (SV G2.S w') (argDs τs x) vs := by
            intro τs
            induction τs with
            | nil => intro x vs h; cases h; exact .nil
            | cons τ r ih =>
              intro x vs h
              cases r with
              | nil => cases h with | cons h1 h2 => cases h2; exact .cons (conv ⟨_, _, rfl⟩ h1) .nil
              | cons σ r => cases h with | cons h1 h2 => exact .cons (conv ⟨_, _, rfl⟩ h1) (ih h2)
          exact resD_ok (all h1)
        · rcases (ha2.heap.old b hlt).2 hb with h | h
          · exact h
          · exact h.elim
      · cases hk
    intro e st' he G a w' ha
    cases e with
    | normal => exact fin st' he G a w' ha
    | ret => exact fin st' he G a w' ha
    | exit id => cases he

end
end Go.Proofs.Ytdkelhdlfeendaa.Ab
