/- What a function's run tells of a call of it; what is known of the functions that it calls. For every program whose types are as told. -/
import Derived.Test.YtllhidkadhoipaaDoorC16
namespace Go.Proofs.YtllhidkadhoipaaDoor.Ab
open Go Go.RowKit
set_option linter.unusedSimpArgs false
set_option linter.unusedVariables false
set_option linter.unusedSectionVars false

/-- Some values of these types. -/
@[reducible] def Res : List Ty → Type
  | [] => Unit
  | [τ] => τ.I
  | τ :: σ :: r => τ.I × Res (σ :: r)

def argDs : (τs : List Ty) → Res τs → List D
  | [], _ => []
  | [τ], x => [.val τ x]
  | τ :: σ :: r, x => .val τ x.1 :: argDs (σ :: r) x.2

def resD : (τs : List Ty) → Res τs → D
  | [τ], x => .val τ x
  | τs, x => .tup (argDs τs x)

def asArgs : (τs : List Ty) → List D → Option (Res τs)
  | [], [] => some ()
  | [τ], [d] => d.asTy τ
  | τ :: σ :: r, d :: ds => match d.asTy τ with
    | some x => match asArgs (σ :: r) ds with
      | some y => some (x, y)
      | none => none
    | none => none
  | _, _ => none

def args0 : Nat → List D → St
  | _, [] => []
  | i, d :: ds => (.tmp i, .d d) :: args0 (i + 1) ds

def getCells (st : St) (id g : Nat) : Nat → Nat → Option (List D)
  | _, 0 => some []
  | i, n + 1 => match st.get (.cell id g i) with
    | some (.d d) => match getCells st id g (i + 1) n with
      | some ds => some (d :: ds)
      | none => none
    | _ => none

def rdRes1 (lay : Lay) (st : St) : ResultVar → Option D
  | .tmp t => match st.get (.tmp t) with
    | some (.d d) => some d
    | _ => none
  | .cell a t => match st.get (.tmp a) with
    | some (.d (.ptr id g off)) => match lay t with
      | some i => match st.get (.obj id) with
        | some (.box g' _) => match Nat.beq g g' with
          | true => match getCells st id g off i.sz with
            | some ds => mkD (isAggD i.desc) ds
            | none => none
          | false => none
        | _ => none
      | none => none
    | _ => none

def rdRes (lay : Lay) (st : St) : List ResultVar → Option (List D)
  | [] => some []
  | r :: rs => match rdRes1 lay st r with
    | some d => match rdRes lay st rs with
      | some ds => some (d :: ds)
      | none => none
    | none => none

/-! ### Entering and leaving -/

/-- What a function is handed lies in its slots. -/
def initP : List Sh → Nat → List D → Pr → Pr
  | s :: ss, i, d :: ds, p => match d.asTy s.ty with
    | some x => giveV s x (100000 + i) fun d' => .wr (.tmp i) (.d d') (match s with
      | .box _ => .wr (.sv i) (.d d') (initP ss (i + 1) ds p)
      | _ => initP ss (i + 1) ds p)
    | none => .fail
  | [], _, [], p => p
  | _, _, _, _ => .fail

/-- What is to be handed back. -/
def resPr (lay : Lay) : List ResultVar → (List D → Pr) → Pr
  | [], k => k []
  | .tmp t :: r, k => evO (.tmp t) fun d => resPr lay r fun ds => k (d :: ds)
  | .cell a t :: r, k => evO (.tmp a) fun
    | .ptr id g off => match lay t with
      | some i => .rd (.obj id) fun
        | some (.box g' _) => .gd (Nat.beq g g') (rdCells id g off i.sz fun cs => match mkD (isAggD i.desc) cs with
          | some d => resPr lay r fun ds => k (d :: ds)
          | none => .fail)
        | _ => .fail
      | none => .fail
    | _ => .fail

/-- The boxes that were handed on. -/
def svP : List Sh → Nat → (List D → Pr) → Pr
  | [], _, k => k []
  | .box _ :: ss, i, k => .rd (.sv i) fun
    | some (.d d) => svP ss (i + 1) fun ds => k (d :: ds)
    | _ => .fail
  | _ :: ss, i, k => svP ss (i + 1) k

def boxSh : List Sh → List Sh
  | [] => []
  | .box c :: ss => .box c :: boxSh ss
  | _ :: ss => boxSh ss

def exitP (lay : Lay) (rvs : List ResultVar) (ps rs : List Sh) : Pr :=
  resPr lay rvs fun ds => svP ps 0 fun bs => prepAll (boxSh ps) bs (prepAll rs ds (lookAll (boxSh ps) bs fun xs iss => lookAll rs ds fun ys jss =>
    .gd (noDup (iss.flatten ++ jss.flatten)) (.wr (.sv 999999) (.d (.tup (xs ++ ys))) .ret)))

/-- What is handed back: what the boxes hold, and the results. -/
def outTys (ps rs : List Sh) : List Ty := (boxSh ps).map Sh.ty ++ rs.map Sh.ty

def noCtx {R : Type} : Ctx R := fun _ _ _ => none

def fnK (lay : Lay) (rvs : List ResultVar) (ps rs : List Sh) (σs : List Ty) : Ex → St → Option (Res σs)
  | .exit _, _ => none
  | _, st => exec (R := Res σs) noCtx (exitP lay rvs ps rs) st [] [] fun st' _ _ => match st'.get (.sv 999999) with
    | some (.d (.tup ds)) => asArgs σs ds
    | _ => none

def fnE {R : Type} (ps : List Sh) (ds : List D) (k : St → Option R) : Option R := exec noCtx (initP ps 0 ds .ret) [] [] [] fun st _ _ => k st

section
variable {P : Program} {lay : Lay} {E : Env} {G : Gh} {L L' : Mem} {a : Act} {w : World} {rs ws : List Loc} {Γ : FuncId → List D → D → Prop}

theorem DV.argDs : ∀ {τs : List Ty} {ds : List D} {x : Res τs} {vs : List Value}, asArgs τs ds = some x → All2 (DV G L w) ds vs → All2 (DV G L w) (Ab.argDs τs x) vs
  | [], [], _, _, _, .nil => .nil
  | [τ], [d], x, [v], h, .cons hd .nil => .cons (asTy_dv h hd) .nil
  | τ :: σ :: r, d :: ds, x, v :: vs, h, .cons hd hds => by
    simp only [asArgs] at h
    split at h
    · rename_i y hy
      split at h
      · rename_i z hz
        cases h
        exact .cons (asTy_dv hy hd) (DV.argDs hz hds)
      · cases h
    · cases h
  | [], _ :: _, _, _, h, _ => by cases h
  | [_], [], _, _, h, _ => by cases h
  | [_], _ :: _ :: _, _, _, h, _ => by cases h
  | _ :: _ :: _, [], _, _, h, _ => by cases h

theorem CallsAbs.asArgs {f : FuncId} {τs : List Ty} {ds : List D} {x : Res τs} {d : D} (h : asArgs τs ds = some x) (hc : CallsAbs P f (Ab.argDs τs x) d) : CallsAbs P f ds d :=
  ⟨hc.1, fun S w vs hb hS hvs => hc.2 S w vs hb hS (DV.argDs h hvs)⟩

/-! ### What is known of functions -/

/-- One function more is known. -/
def ent {R : Type} (f : FuncId) (τs σs : List Ty) (g : Res τs → Option (Res σs)) (next : Ctx R) : Ctx R := fun f' ds k =>
  match Nat.beq f f' with
  | true => match asArgs τs ds with
    | some x => match g x with
      | some r => k (resD σs r)
      | none => none
    | none => none
  | false => next f' ds k

/-- One more, that is handed what it may write to. -/
def entIo {R : Type} (f : FuncId) (τs σs : List Ty) (g : Res τs → Option (Res σs)) (next : Ctx R) : Ctx R := fun f' ds k =>
  match Nat.beq f f' with
  | true => match asArgs τs ds with
    | some x => match g x with
      | some r => k (.tup (argDs σs r))
      | none => none
    | none => none
  | false => next f' ds k

def noFns {R : Type} : Ctx R := fun _ _ _ => none

theorem noFns_ok {R : Type} : CtxOK P lay (noFns (R := R)) := fun _ _ _ _ h => by cases h

/-- What a Lean function tells of a function's calls. -/
def Told (P : Program) (f : FuncId) (τs σs : List Ty) (g : Res τs → Option (Res σs)) : Prop := ∀ x r, g x = some r → CallsAbs P f (argDs τs x) (resD σs r)
def ToldFresh (P : Program) (f : FuncId) (τs σs : List Ty) (g : Res τs → Option (Res σs)) : Prop := ∀ x r, g x = some r → CallsFresh P f (argDs τs x) (resD σs r)
def ToldIo (P : Program) (f : FuncId) (ps rs : List Sh) (τs σs : List Ty) (g : Res τs → Option (Res σs)) : Prop := ∀ x r, g x = some r → CallsIo P f ps rs (argDs τs x) (.tup (argDs σs r))

theorem ent_ok {R : Type} {f : FuncId} {τs σs : List Ty} {g : Res τs → Option (Res σs)} {next : Ctx R} (h : Told P f τs σs g) (hm : ∀ ds d, CallsAbs P f ds d → Means P lay f ds d) (hn : CtxOK P lay next) : CtxOK P lay (ent f τs σs g next) := by
  intro f' ds k r hr
  unfold ent at hr
  cases hb : Nat.beq f f' with
  | false => rw [hb] at hr; exact hn _ _ _ _ hr
  | true =>
    rw [hb] at hr
    have := beq_nat hb
    subst this
    simp only at hr
    split at hr
    · rename_i x hx
      split at hr
      · rename_i y hy
        exact ⟨_, hm _ _ ((h x y hy).asArgs hx), hr⟩
      · cases hr
    · cases hr

theorem ent_okFresh {R : Type} {f : FuncId} {τs σs : List Ty} {g : Res τs → Option (Res σs)} {next : Ctx R} (h : ToldFresh P f τs σs g) (hm : ∀ ds d, CallsFresh P f ds d → Means P lay f ds d) (hn : CtxOK P lay next) : CtxOK P lay (ent f τs σs g next) := by
  intro f' ds k r hr
  unfold ent at hr
  cases hb : Nat.beq f f' with
  | false => rw [hb] at hr; exact hn _ _ _ _ hr
  | true =>
    rw [hb] at hr
    have := beq_nat hb
    subst this
    simp only at hr
    split at hr
    · rename_i x hx
      split at hr
      · rename_i y hy
        have hc := h x y hy
        exact ⟨_, hm _ _ ⟨hc.1, fun S w vs hb hS hvs => hc.2 S w vs hb hS (DV.argDs hx hvs)⟩, hr⟩
      · cases hr
    · cases hr

theorem OwnAll.asArgs {S : Nat → Prop} {w : World} : ∀ {ps : List Sh} {ds : List D} {x : Res (ps.map Sh.ty)} {vs : List Value} {B : List Nat}, Ab.asArgs (ps.map Sh.ty) ds = some x → OwnAll S w ps ds vs B → OwnAll S w ps (Ab.argDs (ps.map Sh.ty) x) vs B
  | [], [], _, [], _, _, h => h
  | [s], [d], x, [v], _, hx, h => by
    obtain ⟨y, cs, B1, B2, rfl, h1⟩ := h
    have : x = y := by
      have : Ab.asArgs ([s].map Sh.ty) [.val s.ty y] = some y := by show D.asTy s.ty (.val s.ty y) = some y; exact asTy_self
      rw [this] at hx
      exact (Option.some.inj hx).symm
    subst this
    exact ⟨x, cs, B1, B2, rfl, h1⟩
  | s :: t :: ss, d :: ds, x, v :: vs, _, hx, h => by
    obtain ⟨y, cs, B1, B2, rfl, h1, h2, h3, h4⟩ := h
    have hx : Ab.asArgs (s.ty :: t.ty :: ss.map Sh.ty) (D.val s.ty y :: ds) = some x := hx
    simp only [Ab.asArgs, asTy_self] at hx
    split at hx
    · rename_i z hz
      cases hx
      exact ⟨y, cs, B1, B2, rfl, h1, h2, h3, OwnAll.asArgs (ps := t :: ss) hz h4⟩
    · cases hx
  | [], _ :: _, _, _, _, _, h => by rename_i vs _ _; cases vs <;> exact h.elim
  | _ :: _, [], _, _, _, _, h => h.elim
  | [], [], _, _ :: _, _, _, h => h.elim
  | [_], [_], _, [], _, _, h => h.elim
  | _ :: _ :: _, _ :: _, _, [], _, _, h => h.elim
  | [_], _ :: _ :: _, _, _, _, hx, _ => by simp [Ab.asArgs] at hx

theorem ent_okIo {R : Type} {f : FuncId} {ps rss : List Sh} {σs : List Ty} {g : Res (ps.map Sh.ty) → Option (Res σs)} {next : Ctx R} (h : ToldIo P f ps rss (ps.map Sh.ty) σs g) (hm : ∀ ds d, CallsIo P f ps rss ds d → Means P lay f ds d) (hn : CtxOK P lay next) : CtxOK P lay (entIo f (ps.map Sh.ty) σs g next) := by
  intro f' ds k r hr
  unfold entIo at hr
  cases hb : Nat.beq f f' with
  | false => rw [hb] at hr; exact hn _ _ _ _ hr
  | true =>
    rw [hb] at hr
    have := beq_nat hb
    subst this
    simp only at hr
    split at hr
    · rename_i x hx
      split at hr
      · rename_i y hy
        obtain ⟨h1, qs, us, h2, h3⟩ := h x y hy
        exact ⟨_, hm _ _ ⟨h1, qs, us, h2, fun S w vs B hb hS ho => h3 S w vs B hb hS (ho.asArgs hx)⟩, hr⟩
      · cases hr
    · cases hr

theorem args0_get {n : Nat} {c : Cell} : ∀ {ds : List D} {i : Nat}, (args0 i ds).get (.tmp n) = some c → ∃ d, c = .d d ∧ i ≤ n ∧ ds[n - i]? = some d
  | [], _, h => by cases h
  | d :: ds, i, h => by
    simp only [args0, St.get, Loc.beq] at h
    split at h
    · rename_i hb
      cases h
      have := beq_nat hb
      subst this
      exact ⟨d, rfl, Nat.le_refl _, by simp⟩
    · obtain ⟨d', e, hle, hg⟩ := args0_get h
      refine ⟨d', e, by omega, ?_⟩
      rw [show n - i = (n - (i + 1)) + 1 by omega]
      simpa using hg

theorem args0_obj {l : Loc} (hl : ∀ n, l ≠ .tmp n) : ∀ {ds : List D} {i : Nat}, (args0 i ds).get l = none
  | [], _ => rfl
  | d :: ds, i => by
    simp only [args0, St.get]
    rw [Loc.beq_ne (fun e => hl i e.symm)]
    exact args0_obj hl

theorem All2.get {α β : Type} {R : α → β → Prop} {l : List α} {m : List β} (h : All2 R l m) : ∀ {i : Nat} {x : α}, l[i]? = some x → ∃ y, m[i]? = some y ∧ R x y := by
  induction h with
  | nil => intro i x h; simp at h
  | cons r _ ih =>
    intro i x h
    cases i with
    | zero => simp at h; subst h; exact ⟨_, by simp, r⟩
    | succ i => simpa using ih (by simpa using h)

theorem All2.length {α β : Type} {R : α → β → Prop} {l : List α} {m : List β} (h : All2 R l m) : l.length = m.length := by
  induction h with
  | nil => rfl
  | cons _ _ ih => simp [ih]

theorem results_all {fn : Func} {rs : List ResultVar} (h : fn.results = rs.toArray) {tmps : Array Value} {vs : List Value}
    (hv : All2 (fun r v => (match r with | .tmp t => (pure (tmps.getD t undef) : Sem Value) | .cell a t => do loadVar t (← asAddr (tmps.getD a undef))).run P w = .ok v w) rs vs) :
    (results fn tmps).run P w = .ok (packV vs) w := by
  have key : ∀ (f : ResultVar → Sem Value) {rs : List ResultVar} {vs : List Value}, All2 (fun r v => (f r).run P w = .ok v w) rs vs → (rs.mapM f).run P w = .ok vs w := by
    intro f rs vs h
    induction h with
    | nil => simp
    | cons h _ ih =>
      rw [List.mapM_cons, Sem.run_bind, h, Result.andThen_ok, Sem.run_bind, ih]
      rfl
  unfold results
  have hk := key _ hv
  rw [h, Sem.run_bind, List.mapM_toArray, Sem.run_map]
  refine (congrArg (fun r : Result (List Value) => (r.andThen fun a w' => Result.ok a.toArray w').andThen fun a w' => Sem.run P (pure (if h : a.size = 1 then a[0] else Value.tuple a)) w') hk).trans ?_
  rcases vs with _ | ⟨t, _ | ⟨u, ts⟩⟩ <;> simp [packV]

theorem getCells_ok {st : St} {id g : Nat} : ∀ {n i : Nat} {ds : List D}, getCells st id g i n = some ds → ds.length = n ∧ ∀ j d, ds[j]? = some d → st.get (.cell id g (i + j)) = some (.d d)
  | 0, _, _, h => by cases h; simp
  | n + 1, i, ds, h => by
    simp only [getCells] at h
    split at h
    · rename_i d hd
      split at h
      · rename_i ds' hds
        cases h
        obtain ⟨h1, h2⟩ := getCells_ok hds
        refine ⟨by simp [h1], fun j d' hj => ?_⟩
        cases j with
        | zero => simp at hj; subst hj; exact hd
        | succ j => rw [show i + (j + 1) = i + 1 + j by omega]; exact h2 j d' (by simpa using hj)
      · cases h
    · cases h

theorem rdRes_ok {lay : Lay} (hlay : LayOK P lay) {st : St} (ha : Abs E G st.get a w) : ∀ {rs : List ResultVar} {ds : List D}, rdRes lay st rs = some ds →
    ∃ vs, All2 (DV G st.get w) ds vs ∧ All2 (fun r v => (match r with | .tmp t => (pure (a.tmps.getD t undef) : Sem Value) | .cell x t => do loadVar t (← asAddr (a.tmps.getD x undef))).run P w = .ok v w) rs vs
  | [], _, h => by cases h; exact ⟨[], .nil, .nil⟩
  | r :: rs, ds, h => by
    simp only [rdRes] at h
    split at h
    · rename_i d hd
      split at h
      · rename_i ds' hds
        cases h
        obtain ⟨vs, k1, k2⟩ := rdRes_ok hlay ha hds
        cases r with
        | tmp t =>
          simp only [rdRes1] at hd
          split at hd
          · rename_i d0 hd0
            cases hd
            exact ⟨_ :: vs, .cons (ha.tmp t _ hd0).2 k1, .cons (by simp) k2⟩
          · cases hd
        | cell x t =>
          simp only [rdRes1] at hd
          split at hd
          · rename_i id g off hx
            split at hd
            · rename_i i hi
              split at hd
              · rename_i g' n0 hl
                split at hd
                · rename_i hb
                  have := beq_nat hb
                  subst this
                  split at hd
                  · rename_i cs hcs
                    obtain ⟨hlen, hcells⟩ := getCells_ok hcs
                    have hd1 := DV_one rfl (ha.tmp x _ hx).2 (by simp) (by simp) (by simp)
                    obtain ⟨us, hus, hmem⟩ := ha.heap.cells hl cs off hcells
                    obtain ⟨v, hv, hw⟩ := run_loadVar_lay hlay hi (x := ⟨G.blk id, off, none⟩) (vs := us) (by rw [hus.length, hlen]) (fun j u hj => by rw [add_none]; exact hmem j u hj) (hus.plain (mkD_solid hd))
                    refine ⟨v :: vs, .cons (mkD_ok hd hus hw) k1, .cons ?_ k2⟩
                    have hp := ptr_at hd1 hl
                    simp [hp, asAddr, hv]
                  · cases hd
                · cases hd
              · cases hd
            · cases hd
          · cases hd
      · cases h
    · cases h

/-! ### A run -/

theorem Run.retEq (h : Run Γ .ret L L' rs ws) : L' = L := by cases h; rfl

/-- A waiting slot is told. -/
theorem Abs.tellSv (h : Abs E G L a w) {n : Nat} {d : D} (hd : DV G L w d (E.sv n)) : After E G L a w G (upd L (.sv n) (.d d)) := by
  have hob : ∀ j, upd L (.sv n) (.d d) (.obj j) = L (.obj j) := fun j => by simp [upd]
  have hs : Step G L G (upd L (.sv n) (.d d)) := Step.of_obj hob
  have hk := Keep.refl G.S w
  have how : ∀ j, ownB G (upd L (.sv n) (.d d)) j = ownB G L j := fun j => ownB_congr (hob j) rfl rfl
  refine ⟨⟨⟨?_, fun j c h1 => h.heap.obj j c (by rw [← hob]; exact h1), fun j g o c h1 => by rw [hob]; exact h.heap.cgen j g o c (by simpa [upd] using h1), fun j b h1 => h.heap.own j b (by rw [← how]; exact h1), fun i j b hij h1 => by rw [how] at h1 ⊢; exact h.heap.apart i j b hij h1, h.heap.sealed, h.heap.old, h.heap.under, h.heap.start⟩, h.defers, h.size, ?_, ?_⟩, hs, hk⟩
  · intro id off d' g m h1 h2
    obtain ⟨v, hv, hdv⟩ := h.heap.cell id off d' g m (by simpa [upd] using h1) (by rw [← hob]; exact h2)
    exact ⟨v, hv, hdv.mono hs hk⟩
  · intro m d' h1
    have h1 : L (.tmp m) = some (.d d') := by simpa [upd] using h1
    exact ⟨(h.tmp m d' h1).1, (h.tmp m d' h1).2.mono hs hk⟩
  · intro m d' h1
    unfold upd at h1
    split at h1
    · rename_i e
      cases e
      cases h1
      exact hd.mono hs hk
    · exact (h.sv m d' h1).mono hs hk

theorem put_same (ha : Abs E G L a w) {t : Tmp} (hlt : t < E.N) : a.put (some t) (a.eval (.tmp t)) = a := by
  have hsz : t < a.tmps.size := by rw [ha.size]; exact hlt
  cases a with
  | mk tmps defers =>
    simp only [Act.put, Act.eval, Act.mk.injEq, and_true]
    apply Array.ext
    · simp
    · intro i h1 h2
      rw [Array.getElem_setIfInBounds]
      split
      · rename_i e
        subst e
        simp
      · rfl

theorem FreeB.of {B : List Nat} (hf : FreeB E G L B) {L1 : Mem} (h : ∀ j, L1 (.obj j) = L (.obj j)) : FreeB E G L1 B :=
  ⟨hf.1, fun b hb => ⟨(hf.2 b hb).1, (hf.2 b hb).2.1, fun j => by rw [show ownB G L1 j = ownB G L j from ownB_congr (h j) rfl rfl]; exact (hf.2 b hb).2.2 j⟩⟩

theorem initP_ok {p : Pr} {all : List Value} (hall : ∀ n, n < all.length → a.eval (.tmp n) = all.getD n undef ∧ n < E.N ∧ E.sv n = all.getD n undef) :
    ∀ {ss : List Sh} {i : Nat} {ds : List D} {vs : List Value} {G : Gh} {L : Mem} {rs ws : List Loc} {B1 B : List Nat}, Run Γ (initP ss i ds p) L L' rs ws → Abs E G L a w → FreeB E G L (B1 ++ B) → OwnAll G.S w ss ds vs B1 → all.drop i = vs →
      ∃ G1 L1 rs' ws', Run Γ p L1 L' rs' ws' ∧ Abs E G1 L1 a w ∧ G1.S = G.S
  | [], i, [], _, G, L, _, _, _, _, h, ha, _, _, _ => ⟨G, L, _, _, h, ha, rfl⟩
  | s :: ss, i, d :: ds, [], G, L, _, _, _, _, _, _, _, ho, _ => ho.elim
  | s :: ss, i, d :: ds, v :: vs, G, L, _, _, B1, B, h, ha, hf, ho, hd => by
    obtain ⟨x, cs, Ba, Bb, rfl, o1, w1, rfl, o2⟩ := ho
    simp only [initP, asTy_self] at h
    rw [List.append_assoc] at hf
    obtain ⟨d', G1, L1, rs1, ws1, h1, a1, f1, hS, _, hdv⟩ := giveV_ok h ha hf o1 w1
    have hlt : i < all.length := by
      rcases Nat.lt_or_ge i all.length with h | h
      · exact h
      · rw [List.drop_eq_nil_of_le h] at hd; cases hd
    have hgi : all.getD i undef = v := by
      have : all[i]? = some v := by
        have := congrArg (fun l => l[0]?) hd
        simpa using this
      simp [List.getD, this]
    have hdr : all.drop (i + 1) = vs := by
      have := congrArg (List.drop 1) hd
      simpa [List.drop_drop, Nat.add_comm] using this
    obtain ⟨e1, e2, e3⟩ := hall i hlt
    cases h1 with
    | wr h1 =>
      have p1 := a1.abs.put (n := i) e2 (v := v) hdv
      rw [show v = a.eval (.tmp i) by rw [e1, hgi], put_same a1.abs e2] at p1
      have p1 : Abs E G1 (upd L1 (.tmp i) (.d d')) a w := p1
      have f2 : FreeB E G1 (upd L1 (.tmp i) (.d d')) (Bb ++ B) := f1.of fun j => by simp [upd]
      have hd2 : DV G1 (upd L1 (.tmp i) (.d d')) w d' v := hdv.mono (Step.of_obj fun j => by simp [upd]) (Keep.refl _ _)
      by_cases hb : ∃ c, s = .box c
      · obtain ⟨c, rfl⟩ := hb
        cases h1 with
        | wr h1 =>
          have p2 := p1.tellSv (n := i) (by rw [e3, hgi]; exact hd2)
          obtain ⟨G2, L2, rs2, ws2, h2, a2, hS2⟩ := initP_ok hall h1 p2.abs (f2.of fun j => by simp [upd]) (by rw [hS]; exact o2) hdr
          exact ⟨G2, L2, rs2, ws2, h2, a2, hS2.trans hS⟩
      · have h1' : ∃ rs ws, Run Γ (initP ss (i + 1) ds p) (upd L1 (.tmp i) (.d d')) L' rs ws := by cases s <;> first | exact ⟨_, _, h1⟩ | exact absurd ⟨_, rfl⟩ hb
        obtain ⟨rs3, ws3, h1'⟩ := h1'
        obtain ⟨G2, L2, rs2, ws2, h2, a2, hS2⟩ := initP_ok hall h1' p1 f2 (by rw [hS]; exact o2) hdr
        exact ⟨G2, L2, rs2, ws2, h2, a2, hS2.trans hS⟩
  | [], _, _ :: _, _, _, _, _, _, _, _, h, _, _, _, _ => by simp only [initP] at h; cases h
  | _ :: _, _, [], _, _, _, _, _, _, _, h, _, _, _, _ => by simp only [initP] at h; cases h

/-- How the results are read. -/
abbrev ReadAs (P : Program) (tmps : Array Value) (w : World) (r : ResultVar) (v : Value) : Prop :=
  (match r with | .tmp t => (pure (tmps.getD t undef) : Sem Value) | .cell x t => do loadVar t (← asAddr (tmps.getD x undef))).run P w = .ok v w

theorem resPr_ok (hlay : LayOK P lay) (ha : Abs E G L a w) : ∀ {rvs : List ResultVar} {k : List D → Pr} {rs : List Loc}, Run Γ (resPr lay rvs k) L L' rs ws →
    ∃ ds us rs', Run Γ (k ds) L L' rs' ws ∧ All2 (DV G L w) ds us ∧ All2 (ReadAs P a.tmps w) rvs us
  | [], k, _, h => ⟨[], [], _, h, .nil, .nil⟩
  | .tmp t :: r, k, _, h => by
    simp only [resPr] at h
    obtain ⟨d, rs1, h1, hd⟩ := evO_ok h ha
    obtain ⟨ds, us, rs2, h2, k1, k2⟩ := resPr_ok hlay ha h1
    exact ⟨_, _, rs2, h2, .cons hd k1, .cons (by simp [ReadAs, Act.eval]) k2⟩
  | .cell x t :: r, k, _, h => by
    simp only [resPr] at h
    obtain ⟨d, rs1, h1, hd⟩ := evO_ok h ha
    revert h1
    split
    · rename_i id g off
      split
      · rename_i i hi
        intro h1
        cases h1 with
        | rd h1 =>
          revert h1
          dsimp only
          split
          · rename_i g' n0 hl
            intro h1
            cases h1 with
            | gd hb h1 =>
              have := beq_nat hb
              subst this
              obtain ⟨cs, rs2, h2, hlen, hcells⟩ := rdCells_ok h1
              revert h2
              split
              · rename_i d' hmk
                intro h2
                have hd1 := DV_one rfl hd (by simp) (by simp) (by simp)
                obtain ⟨vs, hvs, hmem⟩ := ha.heap.cells hl cs off hcells
                obtain ⟨v, hv, hw⟩ := run_loadVar_lay hlay hi (x := ⟨G.blk id, off, none⟩) (vs := vs) (by rw [hvs.length, hlen]) (fun j u hj => by rw [add_none]; exact hmem j u hj) (hvs.plain (mkD_solid hmk))
                obtain ⟨ds, us, rs3, h3, k1, k2⟩ := resPr_ok hlay ha h2
                refine ⟨_, _, rs3, h3, .cons (mkD_ok hmk hvs hw) k1, .cons ?_ k2⟩
                have hp : a.tmps.getD x undef = .pointer (some ⟨G.blk id, off, none⟩) := ptr_at hd1 hl
                show (do loadVar t (← asAddr (a.tmps.getD x undef)) : Sem Value).run P w = .ok v w
                rw [hp]
                simp [asAddr, hv]
              · intro h2; cases h2
          · intro h1; cases h1
      · intro h1; cases h1
    · intro h1; cases h1

/-- The values of the boxes that were handed on. -/
def svVals (E : Env) : List Sh → Nat → List Value
  | [], _ => []
  | .box _ :: ss, i => E.sv i :: svVals E ss (i + 1)
  | _ :: ss, i => svVals E ss (i + 1)

theorem svP_ok (ha : Abs E G L a w) : ∀ {ss : List Sh} {i : Nat} {k : List D → Pr} {rs : List Loc}, Run Γ (svP ss i k) L L' rs ws → ∃ ds rs', Run Γ (k ds) L L' rs' ws ∧ All2 (DV G L w) ds (svVals E ss i)
  | [], _, k, _, h => ⟨[], _, h, .nil⟩
  | s :: ss, i, k, rs0, h => by
    by_cases hb : ∃ c, s = .box c
    · obtain ⟨c, rfl⟩ := hb
      simp only [svP] at h
      cases h with
      | rd h =>
        revert h
        dsimp only
        split
        · rename_i d hd
          intro h
          obtain ⟨ds, rs2, h2, k2⟩ := svP_ok ha h
          exact ⟨_, rs2, h2, .cons (ha.sv i d hd) k2⟩
        · intro h; cases h
    · have h' : Run Γ (svP ss (i + 1) k) L L' rs0 ws := by cases s <;> first | exact h | exact absurd ⟨_, rfl⟩ hb
      obtain ⟨ds, rs2, h2, k2⟩ := svP_ok ha h'
      exact ⟨ds, rs2, h2, by cases s <;> first | exact k2 | exact absurd ⟨_, rfl⟩ hb⟩

theorem ownBack_of {S : Nat → Prop} : ∀ {ps : List Sh} {qs : List D} {vs : List Value} {i : Nat} {B : List Nat}, OwnAll S w (boxSh ps) qs (svVals E ps i) B → ps.length = vs.length → (∀ n, n < vs.length → E.sv (i + n) = vs.getD n undef) → OwnBack S w ps qs vs B
  | [], qs, [], _, B, h, _, _ => by
    cases qs with
    | nil => exact h
    | cons _ _ => exact h.elim
  | s :: ss, qs, v :: vs, i, B, h, hl, hv => by
    have hrest : ∀ n, n < vs.length → E.sv (i + 1 + n) = vs.getD n undef := fun n hn => by
      have := hv (n + 1) (by simp; omega)
      rw [show i + 1 + n = i + (n + 1) by omega, this]
      simp [List.getD]
    by_cases hb : ∃ c, s = .box c
    · obtain ⟨c, rfl⟩ := hb
      cases qs with
      | nil => exact h.elim
      | cons q qs =>
        obtain ⟨x, cs, B1, B2, rfl, h1, h2, rfl, h4⟩ := h
        have hv0 : E.sv i = v := by have := hv 0 (by simp); simpa [List.getD] using this
        have hcs : cs = [v] := by
          have : cs = [E.sv i] ∧ _ := h2
          rw [this.1, hv0]
        subst hcs
        exact ⟨_, qs, x, B1, B2, rfl, rfl, h1, rfl, ownBack_of h4 (by simpa using hl) hrest⟩
    · have h' : OwnAll S w (boxSh ss) qs (svVals E ss (i + 1)) B := by cases s <;> first | exact h | exact absurd ⟨_, rfl⟩ hb
      have := ownBack_of h' (by simpa using hl) hrest
      cases s <;> first | exact this | exact absurd ⟨_, rfl⟩ hb
  | [], _, _ :: _, _, _, _, hl, _ => by simp at hl
  | _ :: _, _, [], _, _, _, hl, _ => by simp at hl

theorem OwnAll.len {S : Nat → Prop} : ∀ {ss : List Sh} {ds : List D} {vs : List Value} {B : List Nat}, OwnAll S w ss ds vs B → ss.length = vs.length ∧ ds.length = ss.length
  | [], [], [], _, _ => ⟨rfl, rfl⟩
  | _ :: _, _ :: _, _ :: _, _, h => by
    obtain ⟨_, _, _, _, _, _, _, _, h4⟩ := h
    have := OwnAll.len h4
    simp [this]
  | [], [], _ :: _, _, h => h.elim
  | [], _ :: _, vs, _, h => by cases vs <;> exact h.elim
  | _ :: _, [], _, _, h => h.elim
  | _ :: _, _ :: _, [], _, h => h.elim

theorem argDs_asArgs : ∀ {σs : List Ty} {ds : List D} {r : Res σs}, asArgs σs ds = some r → (∀ d ∈ ds, ∃ τ x, d = .val τ x) → argDs σs r = ds
  | [], [], _, _, _ => rfl
  | [σ], [d], r, h, hv => by
    obtain ⟨τ, x, rfl⟩ := hv d (by simp)
    simp only [asArgs, D.asTy] at h
    split at h
    · rename_i e; subst e; cases h; rfl
    · cases h
  | σ :: τ :: σs, d :: ds, r, h, hv => by
    obtain ⟨ρ, x, rfl⟩ := hv d (by simp)
    simp only [asArgs, D.asTy] at h
    split at h
    · rename_i y hy
      split at hy
      · rename_i e
        subst e
        cases hy
        split at h
        · rename_i z hz
          cases h
          show _ :: argDs (τ :: σs) z = _
          rw [argDs_asArgs hz (fun d hd => hv d (by simp [hd]))]
          rfl
        · cases h
      · cases hy
    · cases h
  | [], _ :: _, _, h, _ => by cases h
  | [_], [], _, h, _ => by cases h
  | [_], _ :: _ :: _, _, h, _ => by cases h
  | _ :: _ :: _, [], _, h, _ => by cases h

theorem OwnAll.vals {S : Nat → Prop} : ∀ {ss : List Sh} {ds : List D} {vs : List Value} {B : List Nat}, OwnAll S w ss ds vs B → ∀ d ∈ ds, ∃ τ x, d = .val τ x
  | [], [], _, _, _ => by simp
  | _ :: _, d :: ds, _ :: _, _, h => by
    obtain ⟨x, _, _, _, rfl, _, _, _, h4⟩ := h
    intro d hd
    rcases List.mem_cons.1 hd with rfl | hd
    · exact ⟨_, _, rfl⟩
    · exact OwnAll.vals h4 d hd
  | [], _ :: _, vs, _, h => by cases vs <;> exact h.elim
  | _ :: _, [], _, _, h => h.elim
  | _ :: _, _ :: _, [], _, h => h.elim

/-- A call of a function whose run is known. -/
theorem fn_sound (hlay : LayOK P lay) (hm : P.follows .mixedOrders = true) {f : FuncId} {fn : Func} {c : Code} {rvs : List ResultVar} {ps rss : List Sh} {σs : List Ty} {Γ : Ctx (Res σs)} {inl : Inl (Res σs)} {pl : Pl (Res σs)} {ds : List D} {r : Res σs}
    (hf : P.funcs[f]? = some fn) (hb : fn.body = some c) (hn : (fn.name == "runtime.NumGoroutine") = false) (hr : fn.results = rvs.toArray) (hN : Nat.ble ps.length fn.ntmps = true)
    (hΓ : CtxOK P lay Γ) (hI : InlOK P inl) (hpl : PlOK Γ inl lay fn.ntmps pl c (fnK lay rvs ps rss σs)) (h : fnE ps ds (fun st => ev Γ inl lay fn.ntmps c pl st (fnK lay rvs ps rss σs)) = some r) : CallsIo P f ps rss ds (.tup (argDs σs r)) := by
  refine ⟨fun args w => ?_, (argDs σs r).take (boxSh ps).length, (argDs σs r).drop (boxSh ps).length, by rw [List.take_append_drop], fun S w vs B hbs hS ho hnd hns => ?_⟩
  · unfold callFunc
    have hn' : ¬ fn.name = "runtime.NumGoroutine" := by simpa using hn
    simp [hf, hn', hb]
  · have hlen := ho.len
    have hN := Nat.le_of_ble_eq_true hN
    let E : Env := ⟨fn.ntmps, w.heap.size, (· ∈ B), S, w, fun n => vs.getD n undef, hbs, fun b hb => ⟨hS b hb, fun hx => hns b hx hb⟩⟩
    let G0 : Gh := ⟨fun _ => 0, fun _ => .nilFunc, S⟩
    let a0 : Act := { tmps := vs.toArray ++ Array.replicate (fn.ntmps - vs.toArray.size) undef, defers := [] }
    have habs0 : Abs E G0 (St.get []) a0 w := by
      refine ⟨⟨?_, ?_, ?_, ?_, ?_, hS, fun b _ => ⟨fun h => h, fun h => .inl h⟩, Under.refl _ _ _, rfl⟩, rfl, ?_, ?_, fun n d h => by cases h⟩
      · intro id off d g n h; cases h
      · intro id c h; cases h
      · intro id g off c h; cases h
      · intro id b h; cases h
      · intro i j b _ h; cases h
      · show (vs.toArray ++ Array.replicate (fn.ntmps - vs.toArray.size) undef).size = fn.ntmps
        simp
        omega
      · intro n d h; cases h
    have hfree : FreeB E G0 (St.get []) (B ++ []) := ⟨by simpa using hnd, fun b hb => ⟨.inr (by simpa using hb), hns b (by simpa using hb), fun id h => by cases h⟩⟩
    have hall : ∀ n, n < vs.length → a0.eval (.tmp n) = vs.getD n undef ∧ n < E.N ∧ E.sv n = vs.getD n undef := by
      intro n hlt
      refine ⟨?_, by show n < fn.ntmps; omega, rfl⟩
      show (vs.toArray ++ Array.replicate (fn.ntmps - vs.toArray.size) undef).getD n undef = _
      rw [Array.getD_eq_getD_getElem?, Array.getElem?_append_left (by simpa using hlt)]
      simp [List.getD]
    unfold fnE at h
    obtain ⟨st0, rs0, ws0, hrun0, hev⟩ := exec_ok (Θ := fun _ _ _ => False) (fun _ _ _ _ h => by cases h) h
    obtain ⟨G1, L1, rs1, ws1, hret, habs1, hS1⟩ := initP_ok (vs := vs) hall hrun0 habs0 hfree ho rfl
    cases hret
    refine calls_of_wp hf hb ?_
    refine ev_ok (E := E) hlay hm hΓ hI c pl _ _ _ hpl hev ?_ _ _ _ habs1
    have fin : ∀ st', exec (R := Res σs) noCtx (exitP lay rvs ps rss) st' [] [] (fun st' _ _ => match st'.get (.sv 999999) with
        | some (.d (.tup ds)) => asArgs σs ds
        | _ => none) = some r → ∀ G a w', Abs E G st'.get a w' → a.defers = [] ∧ ∃ v, (results fn a.tmps).run P w' = .ok v w' ∧
        ∃ rvals S' B1 B2, Ending.returned v = .returned (packV rvals) ∧ OwnBack S' w' ps ((argDs σs r).take (boxSh ps).length) vs B1 ∧ OwnAll S' w' rss ((argDs σs r).drop (boxSh ps).length) rvals B2 ∧ (B1 ++ B2).Nodup ∧ (∀ b ∈ B1 ++ B2, ¬ S' b ∧ (b ∈ B ∨ w.heap.size ≤ b)) ∧
          Under w.heap.size (· ∈ B) w w' ∧ (∀ b, S b → S' b) ∧ ∀ b, S' b → b < w'.heap.size ∧ (b < w.heap.size → S b ∨ b ∈ B) := by
      intro st' hx G a w' ha'
      obtain ⟨st2, rs2, ws2, hrun, hk⟩ := exec_ok (Θ := fun _ _ _ => False) (fun _ _ _ _ h => by cases h) hx
      unfold exitP at hrun
      obtain ⟨ds1, us1, rs3, h3, hd1, hread⟩ := resPr_ok hlay ha' hrun
      obtain ⟨bs, rs4, h4, hbs⟩ := svP_ok ha' h3
      obtain ⟨G5, L5, rs5, ws5, h5, a5⟩ := prepAll_ok h4 ha'
      obtain ⟨G6, L6, rs6, ws6, h6, a6⟩ := prepAll_ok h5 a5.abs
      have a56 := a5.trans a6
      obtain ⟨xs, iss, rs7, h7, o7, _⟩ := lookAll_ok a56.abs h6 (hbs.mono fun _ _ h => a56.dv h)
      obtain ⟨ys, jss, rs8, h8, o8, _⟩ := lookAll_ok a56.abs h7 (hd1.mono fun _ _ h => a56.dv h)
      cases h8 with
      | gd hnb h8 =>
        cases h8 with
        | wr h8 =>
          rename_i ws9
          have hL := h8.retEq
          have hget : st2.get (.sv 999999) = some (.d (.tup (xs ++ ys))) := by rw [hL]; simp [upd]
          simp only [List.reverse_nil, List.nil_append, hget] at hk
          have hvals : ∀ d ∈ xs ++ ys, ∃ τ x, d = .val τ x := fun d hd => by
            rcases List.mem_append.1 hd with hd | hd
            · exact o7.vals d hd
            · exact o8.vals d hd
          have harg := argDs_asArgs hk hvals
          have hlx : xs.length = (boxSh ps).length := o7.len.2
          rw [harg, List.take_append_of_le_length (by omega), List.take_of_length_le (by omega), List.drop_append_of_le_length (by omega), List.drop_eq_nil_of_le (by omega), List.nil_append]
          have hnodup := noDup_nodup hnb
          have hbl : (blocks G6 L6 iss.flatten ++ blocks G6 L6 jss.flatten) = blocks G6 L6 (iss.flatten ++ jss.flatten) := by simp [blocks, List.filterMap_append]
          refine ⟨ha'.defers, _, results_all hr hread, us1, G6.S, _, _, rfl, ownBack_of o7 hlen.1 (fun n hn => by rw [Nat.zero_add]), o8, ?_, ?_, a56.abs.heap.under, fun b hb => (a56.abs.heap.old b (hS b hb)).1 hb, fun b hb => ⟨a56.abs.heap.sealed b hb, fun hlt => (a56.abs.heap.old b hlt).2 hb⟩⟩
          · rw [hbl]; exact blocks_nodup a56.abs hnodup
          · intro b hb
            rw [hbl] at hb
            obtain ⟨j, _, hj⟩ := List.mem_filterMap.1 hb
            obtain ⟨k1, k2⟩ := a56.abs.heap.own j b hj
            refine ⟨k2, ?_⟩
            rcases k1 with k1 | k1
            · exact .inr k1
            · exact .inl k1
    intro e st' he G a w' ha
    cases e with
    | normal => exact fin st' he G a w' ha
    | ret => exact fin st' he G a w' ha
    | exit id => cases he

/-! ### Functions of data -/

def Sh.isVal : Sh → Bool
  | .val _ => true
  | _ => false

theorem ownAll_vals {S : Nat → Prop} : ∀ {ss : List Sh} {ds : List D} {vs : List Value}, ss.all Sh.isVal = true → ds.map (fun d => match d with
    | .val τ _ => some τ
    | _ => none) = ss.map (fun s => some s.ty) → All2 (SV S w) ds vs → OwnAll S w ss ds vs []
  | [], [], [], _, _, .nil => rfl
  | s :: ss, d :: ds, _, hv, ht, .cons (b := v) (m := vs) h1 h2 => by
    simp only [List.all_cons, Bool.and_eq_true] at hv
    simp only [List.map_cons, List.cons.injEq] at ht
    cases s with
    | val τ =>
      cases d with
      | val τ' x =>
        have e : τ' = τ := Option.some.inj ht.1
        subst e
        obtain ⟨cs, k1, k2⟩ := h1
        exact ⟨x, cs, [], [], rfl, ⟨k1, rfl⟩, k2, rfl, ownAll_vals hv.2 ht.2 h2⟩
      | _ => cases ht.1
    | _ => cases hv.1
  | [], _ :: _, _, _, ht, _ => by simp at ht
  | _ :: _, [], _, _, ht, _ => by simp at ht

theorem ownAll_svs {S : Nat → Prop} : ∀ {ss : List Sh} {ds : List D} {vs : List Value} {B : List Nat}, ss.all Sh.isVal = true → OwnAll S w ss ds vs B → B = [] ∧ All2 (SV S w) ds vs
  | [], [], [], _, _, h => ⟨h, .nil⟩
  | s :: ss, d :: ds, v :: vs, B, hv, h => by
    simp only [List.all_cons, Bool.and_eq_true] at hv
    obtain ⟨x, cs, B1, B2, rfl, h1, h2, rfl, h4⟩ := h
    obtain ⟨rfl, h5⟩ := ownAll_svs hv.2 h4
    cases s with
    | val τ =>
      obtain ⟨k1, rfl⟩ := h1
      exact ⟨rfl, .cons ⟨cs, k1, h2⟩ h5⟩
    | _ => cases hv.1
  | [], _ :: _, vs, _, _, h => by cases vs <;> exact h.elim
  | [], [], _ :: _, _, _, h => h.elim
  | _ :: _, [], _, _, _, h => h.elim
  | _ :: _, _ :: _, [], _, _, h => h.elim

theorem ownBack_vals {S : Nat → Prop} : ∀ {ss : List Sh} {qs : List D} {vs : List Value} {B : List Nat}, ss.all Sh.isVal = true → OwnBack S w ss qs vs B → B = []
  | [], [], [], _, _, h => h
  | s :: ss, qs, v :: vs, B, hv, h => by
    simp only [List.all_cons, Bool.and_eq_true] at hv
    cases s with
    | val τ => exact ownBack_vals (ss := ss) hv.2 h
    | _ => cases hv.1
  | [], _ :: _, vs, _, _, h => by cases vs <;> exact h.elim
  | [], [], _ :: _, _, _, h => h.elim
  | s :: _, _, [], _, _, h => by cases s <;> exact h.elim

theorem calls_plain {f : FuncId} {ps rss : List Sh} {ds us : List D} {d : D} (h : CallsIo P f ps rss ds (.tup us)) (h1 : ps.all Sh.isVal = true) (h2 : rss.all Sh.isVal = true) (h3 : ds.map (fun d => match d with
    | .val τ _ => some τ
    | _ => none) = ps.map (fun s => some s.ty)) (h4 : packD us = some d) : CallsAbs P f ds d := by
  obtain ⟨hent, qs, us', he, hc⟩ := h
  refine ⟨hent, fun S w vs hbs hS hvs => (hc S w vs [] hbs hS (ownAll_vals h1 h3 hvs) List.nodup_nil (by simp)).mono ?_⟩
  rintro e w' ⟨rvs, S', B1, B2, rfl, ob1, ob2, _, _, hu, hS1, hS2⟩
  obtain ⟨rfl, hsv⟩ := ownAll_svs h2 ob2
  have hB1 := ownBack_vals h1 ob1
  have hqs : qs = [] := by
    have : ∀ {ss : List Sh} {qs : List D} {vs : List Value} {B : List Nat}, ss.all Sh.isVal = true → OwnBack S' w' ss qs vs B → qs = [] := by
      intro ss
      induction ss with
      | nil => intro qs vs B _ h; cases qs with | nil => rfl | cons _ _ => cases vs <;> exact h.elim
      | cons s ss ih =>
        intro qs vs B hv h
        simp only [List.all_cons, Bool.and_eq_true] at hv
        cases s with
        | val τ =>
          cases vs with
          | nil => cases qs <;> exact h.elim
          | cons v vs => exact ih hv.2 (show OwnBack S' w' ss qs vs B from h)
        | _ => cases hv.1
    exact this h1 ob1
  subst hqs
  have : us = us' := by simpa using he
  subst this
  refine ⟨_, S', rfl, ?_, ⟨hu.os, hu.tape, hu.output, hu.size, fun k hk _ => hu.block k hk (by simp)⟩, hS1, fun b hb => ⟨(hS2 b hb).1, fun hlt => by rcases (hS2 b hb).2 hlt with h | h; exact h; cases h⟩⟩
  exact packD_ok h4 hsv

end
end Go.Proofs.YtllhidkadhoipaaDoor.Ab
