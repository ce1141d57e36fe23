/- Code run over abstract states, with a plan of what is kept where ways meet and at loops' heads; and that it is sound. For every program whose types are as told. -/
import Derived.Test.YtllhidkadhoipaaDoorK1
import Derived.Deep.LoopGhost
import Derived.Scope
namespace Go.Proofs.YtllhidkadhoipaaDoor.Ab
open Go Go.RowKit

inductive Ex where
  | normal | exit (id : Nat) | ret

def Ex.to : Ex → Exit
  | .normal => .normal
  | .exit id => .exit id
  | .ret => .ret

inductive Pl (R : Type) where
  | leaf
  | one (p : Pl R)
  | two (p q : Pl R)
  | join (keep : List KI) (g : KX keep → Option R) (p q : Pl R)
  | loop (keep : List KI) (n : Nat) (g : Nat → KX keep → Option R) (p : (KX keep → Option R) → Pl R)
  | unroll (n : Nat) (p : Pl R)
  | shut (ids : List Nat)

/-- Own slices that are sealed ahead of a region. -/
def shutV : List Nat → St → St
  | [], st => st
  | id :: l, st => match st.get (.obj id) with
    | some (.vec g _ τ xs) => shutV l (st.put (.obj id) (.sl g τ xs))
    | _ => shutV l st

def Pl.before {R : Type} (p : Pl R) (st : St) : St :=
  match p with
  | .shut l => shutV l st
  | _ => st

theorem shutV_ok {E : Env} {a : Act} {w : World} : ∀ (l : List Nat) {st : St} {G : Gh}, Abs E G st.get a w → ∃ G', Abs E G' (shutV l st).get a w
  | [], _, G, h => ⟨G, h⟩
  | id :: l, st, G, h => by
    simp only [shutV]
    split
    · rename_i g e τ xs hl
      obtain ⟨G1, haf, _⟩ := h.shutVec hl
      exact shutV_ok l (by rw [get_put]; exact haf.abs)
    · exact shutV_ok l h

theorem Pl.before_ok {R : Type} (p : Pl R) {E : Env} {a : Act} {w : World} {st : St} {G : Gh} (h : Abs E G st.get a w) : ∃ G', Abs E G' (p.before st).get a w := by
  cases p with
  | shut l => exact shutV_ok l h
  | _ => exact ⟨G, h⟩

def Pl.fst {R : Type} : Pl R → Pl R
  | .one p => p
  | .two p _ => p
  | _ => .leaf
def Pl.snd {R : Type} : Pl R → Pl R
  | .two _ q => q
  | _ => .leaf

section
variable {R : Type}

def kJ (kp : List KI) (g : KX kp → Option R) (st : St) : Option R :=
  match keep st kp with
  | some x => g x
  | none => none

def kS (g : St → Option R) (k : Ex → St → Option R) : Ex → St → Option R
  | .normal, st => g st
  | .exit id, st => k (.exit id) st
  | .ret, st => k .ret st

def kB (id : Nat) (k : Ex → St → Option R) : Ex → St → Option R
  | .normal, st => k .normal st
  | .exit id', st => match Nat.beq id' id with
    | true => k .normal st
    | false => k (.exit id') st
  | .ret, st => k .ret st

def unr (body : St → (Ex → St → Option R) → Option R) (k : Ex → St → Option R) : Nat → St → Option R
  | 0, _ => none
  | n + 1, st => body st (kS (unr body k n) k)

def ev (Γ : Ctx R) (inl : Inl R) (lay : Lay) (N : Nat) : Code → Pl R → St → (Ex → St → Option R) → Option R
  | .skip, _, st, k => k .normal st
  | .label _, _, st, k => k .normal st
  | .exit id, _, st, k => k (.exit id) st
  | .ret, _, st, k => k .ret st
  | .region _ ops draw, p, st, k => runRegion Γ inl lay N ops draw (p.before st) (k .normal)
  | .seq a b, p, st, k => match p with
    | .join kp g pa _ => ev Γ inl lay N a pa st (kS (kJ kp g) k)
    | p => ev Γ inl lay N a p.fst st (kS (fun st' => ev Γ inl lay N b p.snd st' k) k)
  | .cond c a b, p, st, k => match c with
    | .tmp t => match st.get (.tmp t) with
      | some (.d (.val .bool v)) => match v with
        | true => ev Γ inl lay N a p.fst st k
        | false => ev Γ inl lay N b p.snd st k
      | _ => none
    | .const (.bool v) => match v with
      | true => ev Γ inl lay N a p.fst st k
      | false => ev Γ inl lay N b p.snd st k
    | _ => none
  | .block id b, p, st, k => ev Γ inl lay N b p.fst st (kB id k)
  | .scope b, p, st, k => ev Γ inl lay N b p.fst st k
  | .loop b, p, st, k => match p with
    | .loop kp n g _ => kJ kp (g n) st
    | .unroll n q => unr (fun st k => ev Γ inl lay N b q st k) k n st
    | _ => none
  | _, _, _, _ => none

/-- A plan whose functions are what the code does. -/
def PlOK (Γ : Ctx R) (inl : Inl R) (lay : Lay) (N : Nat) : Pl R → Code → (Ex → St → Option R) → Prop
  | .leaf, _, _ => True
  | .one p, c, k => match c with
    | .block id b => PlOK Γ inl lay N p b (kB id k)
    | .scope b => PlOK Γ inl lay N p b k
    | .seq a b => PlOK Γ inl lay N p a (kS (fun st' => ev Γ inl lay N b .leaf st' k) k)
    | .cond _ a _ => PlOK Γ inl lay N p a k
    | _ => True
  | .two p q, c, k => match c with
    | .seq a b => PlOK Γ inl lay N p a (kS (fun st' => ev Γ inl lay N b q st' k) k) ∧ PlOK Γ inl lay N q b k
    | .cond _ a b => PlOK Γ inl lay N p a k ∧ PlOK Γ inl lay N q b k
    | .block id b => PlOK Γ inl lay N p b (kB id k)
    | .scope b => PlOK Γ inl lay N p b k
    | _ => True
  | .join kp g p q, c, k => match c with
    | .seq a b => planOK kp = true ∧ (∀ x, g x = ev Γ inl lay N b q (mk kp x) k) ∧ PlOK Γ inl lay N p a (kS (kJ kp g) k) ∧ PlOK Γ inl lay N q b k
    | _ => True
  | .loop kp _ g p, c, k => match c with
    | .loop b => planOK kp = true ∧ (∀ x, g 0 x = none) ∧ ∀ m, (∀ x, g (m + 1) x = ev Γ inl lay N b (p (g m)) (mk kp x) (kS (kJ kp (g m)) k)) ∧ PlOK Γ inl lay N (p (g m)) b (kS (kJ kp (g m)) k)
    | _ => True
  | .unroll _ p, c, k => match c with
    | .loop b => ∀ m, PlOK Γ inl lay N p b (kS (unr (fun st k => ev Γ inl lay N b p st k) k m) k)
    | _ => True
  | .shut _, _, _ => True

theorem kJ_some {kp : List KI} {g : KX kp → Option R} {st : St} {r : R} (h : kJ kp g st = some r) : ∃ x, keep st kp = some x ∧ g x = some r := by
  unfold kJ at h
  split at h
  · rename_i x hx; exact ⟨x, hx, h⟩
  · cases h

section
variable {P : Program} {lay : Lay} {Γ : Ctx R} {inl : Inl R} {E : Env}

def Thence (E : Env) (k : Ex → St → Option R) (r : R) (Q : Exit → Act → World → Prop) : Prop :=
  ∀ e st', k e st' = some r → ∀ G a w, Abs E G st'.get a w → Q e.to a w

theorem Thence.kB {k : Ex → St → Option R} {r : R} {Q : Exit → Act → World → Prop} (h : Thence E k r Q) (id : Nat) : Thence E (kB id k) r (Exit.inBlock id Q) := by
  intro e st' he G a w ha
  cases e with
  | normal => exact h .normal st' he G a w ha
  | ret => exact h .ret st' he G a w ha
  | exit id' =>
    simp only [Ab.kB] at he
    simp only [Ex.to, Exit.inBlock]
    split at he
    · rename_i hb
      rw [if_pos (beq_nat hb)]
      exact h .normal st' he G a w ha
    · rename_i hb
      rw [if_neg (fun e => by rw [e, Nat.beq_refl] at hb; cases hb)]
      exact h (.exit id') st' he G a w ha

theorem Thence.noGoto {k : Ex → St → Option R} {r : R} {Q : Exit → Act → World → Prop} (h : Thence E k r Q) : Thence E k r (Exit.noGoto Q) := by
  intro e st' he G a w ha
  cases e with
  | normal => exact h .normal st' he G a w ha
  | ret => exact h .ret st' he G a w ha
  | exit id => exact h (.exit id) st' he G a w ha

theorem Thence.kS {g : St → Option R} {k : Ex → St → Option R} {r : R} {K : Act → World → Prop} {Q : Exit → Act → World → Prop} (h : Thence E k r Q) (hg : ∀ st', g st' = some r → ∀ G a w, Abs E G st'.get a w → K a w) : Thence E (kS g k) r (Exit.then K Q) := by
  intro e st' he G a w ha
  cases e with
  | normal => exact hg st' he G a w ha
  | ret => exact h .ret st' he G a w ha
  | exit id => exact h (.exit id) st' he G a w ha

theorem plok_fst_seq {p : Pl R} {a b : Code} {k : Ex → St → Option R} (hp : PlOK Γ inl lay E.N p (.seq a b) k) (hj : ∀ kp g x y, p ≠ .join kp g x y) : PlOK Γ inl lay E.N p.fst a (Ab.kS (fun st' => ev Γ inl lay E.N b p.snd st' k) k) ∧ PlOK Γ inl lay E.N p.snd b k := by
  cases p with
  | leaf => exact ⟨trivial, trivial⟩
  | one p => exact ⟨hp, trivial⟩
  | two p q => exact hp
  | join kp g x y => exact absurd rfl (hj _ _ _ _)
  | loop _ _ _ _ => exact ⟨trivial, trivial⟩
  | unroll _ _ => exact ⟨trivial, trivial⟩
  | shut _ => exact ⟨trivial, trivial⟩

theorem plok_cond {p : Pl R} {c : Operand} {a b : Code} {k : Ex → St → Option R} (hp : PlOK Γ inl lay E.N p (.cond c a b) k) : PlOK Γ inl lay E.N p.fst a k ∧ PlOK Γ inl lay E.N p.snd b k := by
  cases p with
  | leaf => exact ⟨trivial, trivial⟩
  | one p => exact ⟨hp, trivial⟩
  | two p q => exact hp
  | join kp g x y => exact ⟨trivial, trivial⟩
  | loop _ _ _ _ => exact ⟨trivial, trivial⟩
  | unroll _ _ => exact ⟨trivial, trivial⟩
  | shut _ => exact ⟨trivial, trivial⟩

theorem plok_block {p : Pl R} {id : Nat} {b : Code} {k : Ex → St → Option R} (hp : PlOK Γ inl lay E.N p (.block id b) k) : PlOK Γ inl lay E.N p.fst b (Ab.kB id k) := by
  cases p <;> first | exact hp | trivial
theorem plok_scope {p : Pl R} {b : Code} {k : Ex → St → Option R} (hp : PlOK Γ inl lay E.N p (.scope b) k) : PlOK Γ inl lay E.N p.fst b k := by
  cases p <;> first | exact hp | trivial

/-- What the run of a code tells holds of it. -/
theorem ev_ok (hlay : LayOK P lay) (hm : P.follows .mixedOrders = true) (hΓ : CtxOK P lay Γ) (hI : InlOK P inl) {r : R} : ∀ (c : Code) (p : Pl R) (st : St) (k : Ex → St → Option R) (Q : Exit → Act → World → Prop), PlOK Γ inl lay E.N p c k → ev Γ inl lay E.N c p st k = some r → Thence E k r Q →
    ∀ G a w, Abs E G st.get a w → c.wp P Q a w := by
  intro c
  induction c with
  | skip => exact fun p st k Q _ h hk G a w ha => wp_skip (hk .normal st h G a w ha)
  | label l => exact fun p st k Q _ h hk G a w ha => wp_label (hk .normal st h G a w ha)
  | exit id => exact fun p st k Q _ h hk G a w ha => wp_exit (hk (.exit id) st h G a w ha)
  | ret => exact fun p st k Q _ h hk G a w ha => wp_ret (hk .ret st h G a w ha)
  | region id ops draw =>
    intro p st k Q _ h hk G a w ha
    obtain ⟨G', ha'⟩ := p.before_ok ha
    exact runRegion_ok hlay hm hΓ hI (by simpa only [ev] using h) ha' fun st' hs G a w ha => hk .normal st' hs G a w ha
  | seq x y ihx ihy =>
    intro p st k Q hp h hk G a w ha
    by_cases hj : ∃ kp g pa pb, p = .join kp g pa pb
    · obtain ⟨kp, g, pa, pb, rfl⟩ := hj
      obtain ⟨h1, h2, h3, h4⟩ := hp
      refine wp_seq (ihx pa st _ _ h3 (by simpa only [ev] using h) (hk.kS fun st' hs G' a' w' ha' => ?_) G a w ha)
      obtain ⟨z, hz, hg⟩ := kJ_some hs
      obtain ⟨G2, ha2⟩ := keep_ok h1 hz ha'
      exact ihy pb _ k Q h4 (by rw [← h2]; exact hg) hk G2 a' w' ha2
    · have hne : ∀ kp g u v, p ≠ .join kp g u v := fun kp g u v e => hj ⟨kp, g, u, v, e⟩
      obtain ⟨h1, h2⟩ := plok_fst_seq hp hne
      have h' : ev Γ inl lay E.N x p.fst st (Ab.kS (fun st' => ev Γ inl lay E.N y p.snd st' k) k) = some r := by
        cases p with
        | join kp g u v => exact absurd rfl (hne kp g u v)
        | _ => simpa only [ev] using h
      exact wp_seq (ihx p.fst st _ _ h1 h' (hk.kS fun st' hs G' a' w' ha' => ihy p.snd st' k Q h2 hs hk G' a' w' ha') G a w ha)
  | cond c x y ihx ihy =>
    intro p st k Q hp h hk G a w ha
    obtain ⟨h1, h2⟩ := plok_cond hp
    simp only [ev] at h
    split at h
    · rename_i t
      split at h
      · rename_i v hv
        have hd := (ha.tmp t _ hv).2
        have he : a.eval (.tmp t) = .bool v := DV_bool hd
        cases v with
        | true => exact wp_cond_true he (ihx _ _ _ _ h1 h hk G a w ha)
        | false => exact wp_cond_false he (ihy _ _ _ _ h2 h hk G a w ha)
      · cases h
    · rename_i v
      cases v with
      | true => exact wp_cond_true rfl (ihx _ _ _ _ h1 h hk G a w ha)
      | false => exact wp_cond_false rfl (ihy _ _ _ _ h2 h hk G a w ha)
    · cases h
  | block id b ih =>
    intro p st k Q hp h hk G a w ha
    exact wp_block (ih p.fst st _ _ (plok_block hp) (by simpa only [ev] using h) (hk.kB id) G a w ha)
  | scope b ih =>
    intro p st k Q hp h hk G a w ha
    exact wp_scope_straight (ih p.fst st _ _ (plok_scope hp) (by simpa only [ev] using h) hk.noGoto G a w ha)
  | loop b ih =>
    intro p st k Q hp h hk G a w ha
    cases p with
    | loop kp n g pb =>
      obtain ⟨h1, h2, h3⟩ := hp
      simp only [ev] at h
      obtain ⟨z, hz, hg⟩ := kJ_some h
      obtain ⟨G1, ha1⟩ := keep_ok h1 hz ha
      refine wp_loop_ghost (fun m a w => ∃ x G, g m x = some r ∧ Abs E G (mk kp x).get a w) n ⟨z, G1, hg, ha1⟩ ?_
      rintro m a' w' ⟨x, G', hx, ha'⟩
      cases m with
      | zero => rw [h2] at hx; cases hx
      | succ m =>
        obtain ⟨h4, h5⟩ := h3 m
        rw [h4] at hx
        refine ih (pb (g m)) _ _ _ h5 hx (hk.kS fun st' hs G2 a2 w2 ha2 => ?_) G' a' w' ha'
        obtain ⟨u, hu, hgu⟩ := kJ_some hs
        obtain ⟨G3, ha3⟩ := keep_ok h1 hu ha2
        exact ⟨m, Nat.lt_succ_self m, u, G3, hgu, ha3⟩
    | unroll n q =>
      simp only [ev] at h
      refine wp_loop_ghost (fun m a w => ∃ st' G, unr (fun st k => ev Γ inl lay E.N b q st k) k m st' = some r ∧ Abs E G st'.get a w) n ⟨st, G, h, ha⟩ ?_
      rintro m a' w' ⟨st', G', hx, ha'⟩
      cases m with
      | zero => cases hx
      | succ m => exact ih q st' _ _ (hp m) hx (hk.kS fun st2 hs G2 a2 w2 ha2 => ⟨m, Nat.lt_succ_self m, st2, G2, hs, ha2⟩) G' a' w' ha'
    | _ => simp only [ev] at h; cases h
  | goto l => intro p st k Q _ h; simp only [ev] at h; cases h
  | refuse s => intro p st k Q _ h; simp only [ev] at h; cases h
  | rangeFunc f ps x y ihx ihy => intro p st k Q _ h; simp only [ev] at h; cases h

end
end
end Go.Proofs.YtllhidkadhoipaaDoor.Ab
