/- Calls that are run in place: the caller's slots wait while the callee's code is run over the same memory. For every program whose types are as told. -/
import Derived.Test.YtllhidkadhoipaaDoorC21
namespace Go.Proofs.YtllhidkadhoipaaDoor.Ab
open Go Go.RowKit

/-- The caller's slots wait. -/
def renDown (N : Nat) : Loc → Option Loc
  | .tmp k => match Nat.blt k N with
    | true => some (.sv k)
    | false => none
  | .sv k => some (.sv (k + N))
  | l => some l

/-- They are there again. -/
def renUp (N : Nat) : Loc → Option Loc
  | .tmp _ => none
  | .sv k => match Nat.blt k N with
    | true => some (.tmp k)
    | false => some (.sv (k - N))
  | l => some l

def renSt (ρ : Loc → Option Loc) : St → St
  | [] => []
  | (l, c) :: r => match ρ l with
    | some m => (m, c) :: renSt ρ r
    | none => renSt ρ r

theorem renSt_get {ρ : Loc → Option Loc} (hρ : ∀ l l' m, ρ l = some m → ρ l' = some m → l = l') : ∀ {st : St} {m : Loc} {c : Cell}, (renSt ρ st).get m = some c → ∃ l, ρ l = some m ∧ st.get l = some c
  | [], _, _, h => by cases h
  | (l, d) :: r, m, c, h => by
    simp only [renSt] at h
    split at h
    · rename_i m' hm
      simp only [St.get] at h
      split at h
      · rename_i hb
        cases h
        have := Loc.beq_iff.1 hb
        subst this
        exact ⟨l, hm, by simp [St.get, Loc.beq_self]⟩
      · rename_i hb
        obtain ⟨l2, h1, h2⟩ := renSt_get hρ h
        refine ⟨l2, h1, ?_⟩
        have : l ≠ l2 := fun e => by subst e; rw [hm] at h1; cases h1; rw [Loc.beq_self] at hb; cases hb
        simp [St.get, Loc.beq_ne this, h2]
    · rename_i hn
      obtain ⟨l2, h1, h2⟩ := renSt_get hρ h
      refine ⟨l2, h1, ?_⟩
      have : l ≠ l2 := fun e => by subst e; rw [hn] at h1; cases h1
      simp [St.get, Loc.beq_ne this, h2]

theorem blt_lt {k N : Nat} (h : Nat.blt k N = true) : k < N := Nat.le_of_ble_eq_true h
theorem blt_ge {k N : Nat} (h : Nat.blt k N = false) : N ≤ k := Nat.le_of_not_lt fun hlt => by rw [show Nat.blt k N = true from Nat.ble_eq_true_of_le hlt] at h; cases h

/-- Where it stood. -/
def upOf (N : Nat) : Loc → Loc
  | .sv k => if k < N then .tmp k else .sv (k - N)
  | l => l
def downOf (N : Nat) : Loc → Loc
  | .tmp k => .sv k
  | .sv k => .sv (k + N)
  | l => l

theorem renDown_inv {N : Nat} {l m : Loc} (h : renDown N l = some m) : upOf N m = l := by
  cases l with
  | tmp k =>
    simp only [renDown] at h
    split at h
    · rename_i hb
      cases h
      simp [upOf, blt_lt hb]
    · cases h
  | sv k =>
    simp only [renDown, Option.some.injEq] at h
    subst h
    have : ¬ k + N < N := by omega
    simp [upOf, this]
  | cell id g off => simp only [renDown, Option.some.injEq] at h; subst h; rfl
  | obj id => simp only [renDown, Option.some.injEq] at h; subst h; rfl

theorem renUp_inv {N : Nat} {l m : Loc} (h : renUp N l = some m) : downOf N m = l := by
  cases l with
  | tmp k => cases h
  | sv k =>
    simp only [renUp] at h
    split at h
    · cases h; rfl
    · rename_i hb
      cases h
      have := blt_ge hb
      simp only [downOf, Loc.sv.injEq]
      omega
  | cell id g off => simp only [renUp, Option.some.injEq] at h; subst h; rfl
  | obj id => simp only [renUp, Option.some.injEq] at h; subst h; rfl

theorem renDown_inj {N : Nat} (l l' m : Loc) (h : renDown N l = some m) (h' : renDown N l' = some m) : l = l' := (renDown_inv h).symm.trans (renDown_inv h')
theorem renUp_inj {N : Nat} (l l' m : Loc) (h : renUp N l = some m) (h' : renUp N l' = some m) : l = l' := (renUp_inv h).symm.trans (renUp_inv h')

theorem renSt_get_of {ρ : Loc → Option Loc} (hρ : ∀ l l' m, ρ l = some m → ρ l' = some m → l = l') {l m : Loc} (hl : ρ l = some m) : ∀ {st : St} {c : Cell}, st.get l = some c → (renSt ρ st).get m = some c
  | [], _, h => by cases h
  | (l2, d) :: r, c, h => by
    simp only [St.get] at h
    split at h
    · rename_i hb
      cases h
      have := Loc.beq_iff.1 hb
      subst this
      simp only [renSt, hl, St.get, Loc.beq_self]
    · rename_i hb
      have ih := renSt_get_of hρ hl h
      simp only [renSt]
      split
      · rename_i m2 hm2
        have : m2 ≠ m := fun e => by subst e; have := hρ _ _ _ hl hm2; subst this; rw [Loc.beq_self] at hb; cases hb
        simp only [St.get, Loc.beq_ne this]
        exact ih
      · exact ih

theorem append_get {s t : St} {l : Loc} (h : s.get l = none) : (s ++ t).get l = t.get l := by
  induction s with
  | nil => rfl
  | cons p r ih =>
    obtain ⟨m, c⟩ := p
    simp only [St.get] at h
    simp only [List.cons_append, St.get]
    split at h
    · cases h
    · rename_i hb; first | exact ih h | (rw [hb]; exact ih h)

theorem down_obj {N : Nat} {ds : List D} {st : St} {l : Loc} (hl : renDown N l = some l) (hn : ∀ n, l ≠ .tmp n) : (args0 0 ds ++ renSt (renDown N) st).get l = st.get l := by
  rw [append_get (args0_obj hn)]
  cases hs : st.get l with
  | some c => exact renSt_get_of renDown_inj hl hs
  | none =>
    cases hr : (renSt (renDown N) st).get l with
    | none => rfl
    | some c =>
      obtain ⟨l2, h1, h2⟩ := renSt_get renDown_inj hr
      have := renDown_inj _ _ _ hl h1
      subst this
      rw [hs] at h2
      cases h2

/-- What is there of a caller whose callee begins. -/
def Env.down (E : Env) (a : Act) (M : Nat) : Env := { E with N := M, sv := fun k => if k < E.N then a.tmps.getD k undef else E.sv (k - E.N) }

theorem Abs.down {E : Env} {G : Gh} {st : St} {a : Act} {w : World} (ha : Abs E G st.get a w) {ds : List D} {vs : List Value} (hvs : All2 (DV G st.get w) ds vs) {M : Nat} (hM : ds.length ≤ M) :
    Abs (E.down a M) G (args0 0 ds ++ renSt (renDown E.N) st).get { tmps := vs.toArray ++ Array.replicate (M - vs.toArray.size) undef, defers := [] } w := by
  have hlen := hvs.length
  have hob : ∀ id, (args0 0 ds ++ renSt (renDown E.N) st).get (.obj id) = st.get (.obj id) := fun id => down_obj rfl (by simp)
  have hce : ∀ id g off, (args0 0 ds ++ renSt (renDown E.N) st).get (.cell id g off) = st.get (.cell id g off) := fun id g off => down_obj rfl (by simp)
  have hs : Step G st.get G (args0 0 ds ++ renSt (renDown E.N) st).get := Step.of_obj hob
  have hk := Keep.refl G.S w
  have how : ∀ j, ownB G (args0 0 ds ++ renSt (renDown E.N) st).get j = ownB G st.get j := fun j => ownB_congr (hob j) rfl rfl
  refine ⟨⟨?_, fun id c h1 => ha.heap.obj id c (by rw [← hob]; exact h1),
    fun id g off c h1 => by rw [hob]; exact ha.heap.cgen id g off c (by rw [← hce]; exact h1), fun id b hb => ha.heap.own id b (by rw [← how]; exact hb), fun i j b hij h1 => by rw [how] at h1 ⊢; exact ha.heap.apart i j b hij h1, ha.heap.sealed, ha.heap.old, ha.heap.under, ha.heap.start⟩, rfl, ?_, ?_, ?_⟩
  · intro id off d g n h1 h2
    obtain ⟨v, hv, hd⟩ := ha.heap.cell id off d g n (by rw [← hce]; exact h1) (by rw [← hob]; exact h2)
    exact ⟨v, hv, hd.mono hs hk⟩
  · simp [Env.down]; omega
  · intro n d h
    have hno : (renSt (renDown E.N) st).get (.tmp n) = none := by
      cases hr : (renSt (renDown E.N) st).get (.tmp n) with
      | none => rfl
      | some c =>
        obtain ⟨l2, h1, _⟩ := renSt_get renDown_inj hr
        have := renDown_inv h1
        simp only [upOf] at this
        subst this
        simp only [renDown] at h1
        split at h1 <;> cases h1
    have h0 : (args0 0 ds).get (.tmp n) = some (.d d) := by
      cases hr : (args0 0 ds).get (.tmp n) with
      | none => rw [append_get hr, hno] at h; cases h
      | some c =>
        have : ∀ {s t : St} {l : Loc} {c : Cell}, s.get l = some c → (s ++ t).get l = some c := by
          intro s t l c hs
          induction s with
          | nil => cases hs
          | cons p r ih =>
            obtain ⟨m, c2⟩ := p
            simp only [St.get] at hs
            simp only [List.cons_append, St.get]
            split at hs
            · exact hs
            · exact ih hs
        rw [this hr] at h
        exact h
    obtain ⟨d', e, _, hg⟩ := args0_get h0
    cases e
    rw [Nat.sub_zero] at hg
    obtain ⟨v, hv, hd⟩ := hvs.get hg
    have hlt : n < vs.length := (List.getElem?_eq_some_iff.1 hv).1
    refine ⟨by show n < M; omega, ?_⟩
    have : (vs.toArray ++ Array.replicate (M - vs.toArray.size) undef).getD n undef = v := by
      rw [Array.getD_eq_getD_getElem?, Array.getElem?_append_left (by simpa using hlt)]
      simp [hv]
    rw [this]
    exact hd.mono hs hk
  · intro n d h
    rw [append_get (args0_obj (by simp))] at h
    obtain ⟨l2, h1, h2⟩ := renSt_get renDown_inj h
    have hl2 := renDown_inv h1
    simp only [upOf] at hl2
    simp only [Env.down]
    split at hl2
    · rename_i hlt
      subst hl2
      rw [if_pos hlt]
      exact (ha.tmp n d h2).2.mono hs hk
    · rename_i hlt
      subst hl2
      rw [if_neg hlt]
      exact (ha.sv _ d h2).mono hs hk

theorem up_same {N : Nat} {st : St} {l : Loc} (hl : renUp N l = some l) : (renSt (renUp N) st).get l = st.get l := by
  cases hs : st.get l with
  | some c => exact renSt_get_of renUp_inj hl hs
  | none =>
    cases hr : (renSt (renUp N) st).get l with
    | none => rfl
    | some c =>
      obtain ⟨l2, h1, h2⟩ := renSt_get renUp_inj hr
      have := renUp_inj _ _ _ hl h1
      subst this
      rw [hs] at h2
      cases h2

/-- Behind the callee: the caller's slots are there again. -/
theorem Abs.up {E : Env} {G : Gh} {st : St} {a a' : Act} {w : World} {M : Nat} (hsz : a.tmps.size = E.N) (hdf : a.defers = []) (ha : Abs (E.down a M) G st.get a' w) : Abs E G (renSt (renUp E.N) st).get a w := by
  have hob : ∀ id, (renSt (renUp E.N) st).get (.obj id) = st.get (.obj id) := fun id => up_same rfl
  have hce : ∀ id g off, (renSt (renUp E.N) st).get (.cell id g off) = st.get (.cell id g off) := fun id g off => up_same rfl
  have hs : Step G st.get G (renSt (renUp E.N) st).get := Step.of_obj hob
  have hk := Keep.refl G.S w
  have how : ∀ j, ownB G (renSt (renUp E.N) st).get j = ownB G st.get j := fun j => ownB_congr (hob j) rfl rfl
  refine ⟨⟨?_, fun id c h1 => ha.heap.obj id c (by rw [← hob]; exact h1),
    fun id g off c h1 => by rw [hob]; exact ha.heap.cgen id g off c (by rw [← hce]; exact h1), fun id b hb => ha.heap.own id b (by rw [← how]; exact hb), fun i j b hij h1 => by rw [how] at h1 ⊢; exact ha.heap.apart i j b hij h1, ha.heap.sealed, ha.heap.old, ha.heap.under, ha.heap.start⟩, hdf, hsz, ?_, ?_⟩
  · intro id off d g n h1 h2
    obtain ⟨v, hv, hd⟩ := ha.heap.cell id off d g n (by rw [← hce]; exact h1) (by rw [← hob]; exact h2)
    exact ⟨v, hv, hd.mono hs hk⟩
  · intro n d h
    obtain ⟨l2, h1, h2⟩ := renSt_get renUp_inj h
    have hl2 := renUp_inv h1
    simp only [downOf] at hl2
    subst hl2
    simp only [renUp] at h1
    split at h1
    · rename_i hb
      have hlt := blt_lt hb
      have := ha.sv n d h2
      simp only [Env.down, if_pos hlt] at this
      exact ⟨hlt, this.mono hs hk⟩
    · cases h1
  · intro n d h
    obtain ⟨l2, h1, h2⟩ := renSt_get renUp_inj h
    have hl2 := renUp_inv h1
    simp only [downOf] at hl2
    subst hl2
    have := ha.sv _ d h2
    have hge : ¬ n + E.N < E.N := by omega
    simp only [Env.down, if_neg hge, Nat.add_sub_cancel] at this
    exact this.mono hs hk

/-! ### Run in place -/

section
variable {R : Type}

def inlK (lay : Lay) (rs : List ResultVar) (N : Nat) (k : D → St → Option R) : Ex → St → Option R
  | .exit _, _ => none
  | _, st => match rdRes lay st rs with
    | some ds => match packD ds with
      | some d => k d (renSt (renUp N) st)
      | none => none
    | none => none

/-- All loops unrolled, so far. -/
def plUn (m : Nat) : Code → Pl R
  | .seq a b => .two (plUn m a) (plUn m b)
  | .cond _ a b => .two (plUn m a) (plUn m b)
  | .block _ b => .one (plUn m b)
  | .scope b => .one (plUn m b)
  | .loop b => .unroll m (plUn m b)
  | _ => .leaf

theorem plUn_ok {Γ : Ctx R} {inl : Inl R} {lay : Lay} {N m : Nat} : ∀ (c : Code) (k : Ex → St → Option R), PlOK Γ inl lay N (plUn m c) c k := by
  intro c
  induction c with
  | seq a b iha ihb => exact fun k => ⟨iha _, ihb _⟩
  | cond _ a b iha ihb => exact fun k => ⟨iha _, ihb _⟩
  | block _ b ih => exact fun k => ih _
  | scope b ih => exact fun k => ih _
  | loop b ih => exact fun k _ => ih _
  | _ => exact fun _ => trivial

abbrev Tab := FuncId → Option (Code × Nat × List ResultVar)

def mkInl (tab : Tab) (Γ : Ctx R) (lay : Lay) : Nat → Inl R
  | 0 => noInl
  | n + 1 => fun f ob N ds st k => match tab f with
    | some (c, M, rs) => match Nat.ble ds.length M with
      | true => ev Γ (mkInl tab Γ lay n) { lay with ob := ob } M c (plUn 1000 c) (args0 0 ds ++ renSt (renDown N) st) (inlK lay rs N k)
      | false => none
    | none => none

def TabOK (P : Program) (tab : Tab) : Prop := ∀ f c M rs, tab f = some (c, M, rs) → ∃ fn, P.funcs[f]? = some fn ∧ fn.body = some c ∧ fn.ntmps = M ∧ fn.results = rs.toArray ∧ (fn.name == "runtime.NumGoroutine") = false

theorem mkInl_ok {P : Program} {tab : Tab} (ht : TabOK P tab) {lay : Lay} {Γ : Ctx R} (hΓ : CtxOK P lay Γ) (hlay : LayOK P lay) (hm : P.follows .mixedOrders = true) : ∀ n, InlOK P (mkInl tab Γ lay n)
  | 0 => noInl_ok
  | n + 1 => by
    intro f ob ds st k r E h
    simp only [mkInl] at h
    split at h
    · rename_i c M rs htab
      split at h
      · rename_i hM
        obtain ⟨fn, hf, hb, rfl, hr, hname⟩ := ht f c M rs htab
        refine ⟨enters hf hb hname, fun G a w vs ha hvs => ?_⟩
        have hst := ha.down hvs (Nat.le_of_ble_eq_true hM)
        have hlay' : LayOK P { lay with ob := ob } := ⟨hlay.und, hlay.inf, hlay.zsz, hlay.zok, hlay.z1, hlay.tys, hlay.cln, hlay.del, hlay.eqs, hlay.keys⟩
        refine calls_of_wp hf hb ?_
        refine ev_ok (E := E.down a fn.ntmps) hlay' hm hΓ (mkInl_ok ht hΓ hlay hm n) c (plUn 1000 c) _ _ _ (plUn_ok c _) h ?_ _ _ _ hst
        have fin : ∀ st', (match rdRes lay st' rs with
            | some ds => match packD ds with
              | some d => k d (renSt (renUp E.N) st')
              | none => none
            | none => none) = some r → ∀ G' a' w', Abs (E.down a fn.ntmps) G' st'.get a' w' → a'.defers = [] ∧ ∃ v, (results fn a'.tmps).run P w' = .ok v w' ∧
            ∃ v' d st2 G2, Ending.returned v = .returned v' ∧ Abs E G2 st2.get a w' ∧ DV G2 st2.get w' d v' ∧ k d st2 = some r := by
          intro st' ho G' a' w' ha'
          split at ho
          · rename_i ds' hds
            split at ho
            · rename_i d hd
              obtain ⟨us, hus, hres⟩ := rdRes_ok hlay ha' hds
              have hup := ha'.up ha.size ha.defers
              refine ⟨ha'.defers, _, results_all hr hres, _, d, _, G', rfl, hup, ?_, ho⟩
              refine (packD_ok hd hus).mono (Step.of_obj fun id => up_same rfl) (Keep.refl _ _)
            · cases ho
          · cases ho
        intro e st' he G' a' w' ha'
        cases e with
        | normal => exact fin st' he G' a' w' ha'
        | ret => exact fin st' he G' a' w' ha'
        | exit id => cases he
      · cases h
    · cases h

end
end Go.Proofs.YtllhidkadhoipaaDoor.Ab
