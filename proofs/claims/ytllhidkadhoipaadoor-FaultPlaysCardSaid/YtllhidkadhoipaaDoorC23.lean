/- Tables of functions that are run in place; structs that are compared, by a check. For every program. -/
import Derived.Test.YtllhidkadhoipaaDoorC22
namespace Go.Proofs.YtllhidkadhoipaaDoor.Ab
open Go Go.RowKit

abbrev TabL := List (Nat × (Code × Nat × List ResultVar))

def tabOf : TabL → Tab
  | [], _ => none
  | (n, x) :: r, f => match Nat.beq n f with
    | true => some x
    | false => tabOf r f

inductive TabAll (P : Program) : TabL → Prop
  | nil : TabAll P []
  | cons {f : Nat} {fn : Func} {c : Code} {M : Nat} {rs : List ResultVar} {r : TabL} (h1 : P.funcs[f]? = some fn) (h2 : fn.body = some c) (h3 : fn.ntmps = M) (h4 : fn.results = rs.toArray) (h5 : (fn.name == "runtime.NumGoroutine") = false) (h : TabAll P r) : TabAll P ((f, (c, M, rs)) :: r)

theorem tabOf_ok {P : Program} {l : TabL} (h : TabAll P l) : TabOK P (tabOf l) := by
  intro f c M rs hf
  induction h with
  | nil => cases hf
  | @cons f' fn c' M' rs' r h1 h2 h3 h4 h5 _ ih =>
    simp only [tabOf] at hf
    split at hf
    · rename_i hb
      cases hf
      have := beq_nat hb
      subst this
      exact ⟨fn, h1, h2, h3, h4, h5⟩
    · exact ih hf

/-! ### Structs that are compared -/

def tyBeq (a b : Ty) : Bool := decide (a = b)

def eqF (sz : TypeId → Option LInfo) (rec : TypeId → Ty → Bool) : List Field → Nat → Ty → Bool
  | [], _, .unit => true
  | fd :: fs, off, .pair a b => !(fd.name == "_") && Nat.beq fd.offset off && (match sz fd.type with
    | some j => Nat.beq j.sz a.sz && (a.isAgg == isAggD j.desc)
    | none => false) && rec fd.type a && eqF sz rec fs (off + a.sz) b
  | _, _, _ => false

def eqT (P : Program) (f : TypeId → Option LInfo) : Nat → TypeId → Ty → Bool
  | 0, _, _ => false
  | n + 1, t, τ => match P.underlying t with
    | some .bool => tyBeq τ .bool
    | some (.int k) => tyBeq τ (.int k)
    | some .string => tyBeq τ .str
    | some (.struct _) => !P.stoodInHeld t && τ.isAgg && eqF f (eqT P f n) (P.fieldsOf t).toList 0 τ
    | _ => false

theorem eqF_ok {P : Program} {f : TypeId → Option LInfo} {n : Nat} {rec : TypeId → Ty → Bool} (hr : ∀ t τ, rec t τ = true → EqT P f t τ n) : ∀ {fs : List Field} {off : Nat} {τ : Ty}, eqF f rec fs off τ = true → EqF P f fs off τ n
  | [], _, τ, h => by
    cases τ <;> first | exact .nil | cases h
  | fd :: fs, off, τ, h => by
    cases τ with
    | pair a b =>
      simp only [eqF, Bool.and_eq_true] at h
      obtain ⟨⟨⟨⟨h1, h2⟩, h3⟩, h4⟩, h5⟩ := h
      split at h3
      · rename_i j hj
        exact .cons (by simpa using h1) (beq_nat h2) hj h3 (hr _ _ h4) (eqF_ok hr h5)
      · cases h3
    | _ => cases h

theorem eqT_ok {P : Program} {f : TypeId → Option LInfo} : ∀ {n : Nat} {t : TypeId} {τ : Ty}, eqT P f n t τ = true → EqT P f t τ n
  | 0, _, _, h => by cases h
  | n + 1, t, τ, h => by
    simp only [eqT] at h
    split at h
    · rename_i hu; simp only [tyBeq, decide_eq_true_eq] at h; subst h; exact .bool hu
    · rename_i hu; simp only [tyBeq, decide_eq_true_eq] at h; subst h; exact .int hu
    · rename_i hu; simp only [tyBeq, decide_eq_true_eq] at h; subst h; exact .str hu
    · rename_i fs hu
      simp only [Bool.and_eq_true, Bool.not_eq_true'] at h
      refine .struct ?_ h.1.1 h.1.2 (eqF_ok (fun _ _ h => eqT_ok h) h.2)
      rw [hu]
      simp [Program.fieldsOf, hu]
    · cases h

def eqCheck (P : Program) (f : TypeId → Option LInfo) (p : Nat × LInfo) : Bool :=
  !p.2.cmp || (match p.2.ty with
    | some τ => τ.isAgg && eqT P f 30 p.1 τ && !(P.eqGuardType P.depth p.1)
    | none => true)

theorem eq_all {P : Program} {l : List (Nat × LInfo)} (h : l.all (eqCheck P (layF l)) = true) : ∀ t i, layF l t = some i → EqOK P (layF l) t i := by
  have mem : ∀ {l : List (Nat × LInfo)} {t : Nat} {i : LInfo}, layF l t = some i → (t, i) ∈ l := by
    intro l t i h
    induction l with
    | nil => cases h
    | cons p r ih =>
      obtain ⟨n, j⟩ := p
      simp only [layF] at h
      split at h
      · rename_i hb
        cases h
        rw [beq_nat hb]; simp
      · exact List.mem_cons_of_mem _ (ih h)
  intro t i hi hc τ hτ
  have := List.all_eq_true.1 h _ (mem hi)
  simp only [eqCheck, hc, hτ, Bool.not_true, Bool.false_or, Bool.and_eq_true, Bool.not_eq_true'] at this
  exact ⟨this.1.1, ⟨30, by omega, eqT_ok this.1.2⟩, this.2⟩

/-! ### Keys of maps -/

def keyP (P : Program) (t : TypeId) (κ : Ty) : Bool := match P.underlying t with
  | some .bool => tyBeq κ .bool
  | some (.int k) => tyBeq κ (.int k)
  | some .string => tyBeq κ .str
  | _ => false

def keyT (P : Program) (t : TypeId) (κ : Ty) : Bool := keyP P t κ || (match P.underlying t with
  | some (.array n e) => (match κ with
    | .arr m κ' => Nat.beq n m && Nat.beq (P.cellsOf e) 1 && keyP P e κ'
    | _ => false)
  | _ => false)

theorem keyP_ok {P : Program} {t : TypeId} {κ : Ty} (h : keyP P t κ = true) : KeyP P t κ := by
  unfold keyP at h
  split at h
  · rename_i hu; simp only [tyBeq, decide_eq_true_eq] at h; subst h; exact .bool hu
  · rename_i hu; simp only [tyBeq, decide_eq_true_eq] at h; subst h; exact .int hu
  · rename_i hu; simp only [tyBeq, decide_eq_true_eq] at h; subst h; exact .str hu
  · cases h

theorem keyT_ok {P : Program} {t : TypeId} {κ : Ty} (h : keyT P t κ = true) : KeyT P t κ := by
  unfold keyT at h
  rw [Bool.or_eq_true] at h
  rcases h with h | h
  · exact .plain (keyP_ok h)
  · split at h
    · rename_i n e hu
      split at h
      · simp only [Bool.and_eq_true] at h
        have := beq_nat h.1.1
        subst this
        exact .arr hu (beq_nat h.1.2) (keyP_ok h.2)
      · cases h
    · cases h

def keyCheck (P : Program) (p : Nat × LInfo) : Bool := !p.2.key || (match p.2.ty with
  | some τ => keyT P p.1 τ
  | none => true)

theorem keys_all {P : Program} {l : List (Nat × LInfo)} (h : l.all (keyCheck P) = true) : KeysOK P l := by
  have mem : ∀ {l : List (Nat × LInfo)} {t : Nat} {i : LInfo}, layF l t = some i → (t, i) ∈ l := by
    intro l t i h
    induction l with
    | nil => cases h
    | cons p r ih =>
      obtain ⟨n, j⟩ := p
      simp only [layF] at h
      split at h
      · rename_i hb
        cases h
        rw [beq_nat hb]; simp
      · exact List.mem_cons_of_mem _ (ih h)
  intro t i hi hk τ hτ
  have := List.all_eq_true.1 h _ (mem hi)
  simp only [keyCheck, hk, hτ, Bool.not_true, Bool.false_or] at this
  exact keyT_ok this

end Go.Proofs.YtllhidkadhoipaaDoor.Ab
