/- A layout as a list. For every program. -/
import Derived.Test.YtdkelhdlfeendaaC17
namespace Go.Proofs.Ytdkelhdlfeendaa.Ab
open Go Go.RowKit

def layF : List (Nat × LInfo) → TypeId → Option LInfo
  | [], _ => none
  | (n, i) :: r, t => match Nat.beq n t with
    | true => some i
    | false => layF r t

/-- The sorts of the functions that are not of the plain one. -/
def spF : List (Nat × Sp) → FuncId → Sp
  | [], _ => .plain
  | (n, s) :: r, f => match Nat.beq n f with
    | true => s
    | false => spF r f

def layOf (l : List (Nat × LInfo)) (s : List (Nat × Sp)) : Lay := ⟨layF l, spF s⟩

def SpOK (P : Program) (p : Nat × Sp) : Prop :=
  match p.2 with
  | .clone e τ c => CloneOK P p.1 e τ c
  | .delete e τ => DeleteOK P p.1 e τ
  | _ => True

theorem spF_ok {P : Program} {s : List (Nat × Sp)} (h : ∀ p ∈ s, SpOK P p) {f : FuncId} : SpOK P (f, spF s f) := by
  induction s with
  | nil => trivial
  | cons p r ih =>
    obtain ⟨n, q⟩ := p
    simp only [spF]
    split
    · rename_i hb
      have := beq_nat hb
      subst this
      exact h _ (by simp)
    · exact ih fun p hp => h p (by simp [hp])

def zok (i : LInfo) : Bool :=
  match i.zero with
  | .agg _ => isAggD i.desc
  | .tuple _ => false
  | _ => !isAggD i.desc

def layCheck (i : LInfo) : Bool :=
  Nat.beq i.zero.cells.size i.sz && zok i && i.zero.cells.toList.all Value.oneCell' &&
  match i.ty with
  | some τ => Nat.beq τ.sz i.sz && (τ.isAgg == isAggD i.desc)
  | none => true

inductive LayAll (P : Program) : List (Nat × LInfo) → Prop
  | nil : LayAll P []
  | cons {n : Nat} {i : LInfo} {r : List (Nat × LInfo)} (h1 : P.underlying n = some i.desc) (h2 : (P.info? n).map (fun x => (x.zero, x.size, x.bytes)) = some (some i.zero, i.sz, i.bytes)) (h3 : layCheck i = true) (h : LayAll P r) : LayAll P ((n, i) :: r)

theorem layOf_get {P : Program} {l : List (Nat × LInfo)} (h : LayAll P l) {t : Nat} {i : LInfo} (hi : layF l t = some i) : P.underlying t = some i.desc ∧ (P.info? t).map (fun x => (x.zero, x.size, x.bytes)) = some (some i.zero, i.sz, i.bytes) ∧ layCheck i = true := by
  induction h with
  | nil => cases hi
  | @cons n j r h1 h2 h3 _ ih =>
    simp only [layF] at hi
    split at hi
    · rename_i hb
      cases hi
      have := beq_nat hb
      subst this
      exact ⟨h1, h2, h3⟩
    · exact ih hi

theorem layOf_ok {P : Program} {l : List (Nat × LInfo)} (h : LayAll P l) {s : List (Nat × Sp)} (hs : ∀ p ∈ s, SpOK P p) : LayOK P (layOf l s) := by
  have key : ∀ t i, layF l t = some i → i.zero.cells.size = i.sz ∧ zok i = true ∧ (∀ u ∈ i.zero.cells.toList, u.oneCell' = true) ∧ ∀ τ, i.ty = some τ → τ.sz = i.sz ∧ τ.isAgg = isAggD i.desc := by
    intro t i hi
    have h3 := (layOf_get h hi).2.2
    simp only [layCheck, Bool.and_eq_true, List.all_eq_true] at h3
    refine ⟨beq_nat h3.1.1.1, h3.1.1.2, h3.1.2, fun τ hτ => ?_⟩
    have h4 := h3.2
    rw [hτ] at h4
    simp only [Bool.and_eq_true] at h4
    exact ⟨beq_nat h4.1, eq_of_beq h4.2⟩
  refine ⟨fun t i hi => (layOf_get h hi).1, fun t i hi => (layOf_get h hi).2.1, fun t i hi => (key t i hi).1, fun t i hi => ?_, fun t i hi => (key t i hi).2.2.1, fun t i τ hi => (key t i hi).2.2.2 τ, fun f e τ c h => by have := spF_ok hs (f := f); simp only [layOf] at h; rw [h] at this; exact this, fun f e τ h => by have := spF_ok hs (f := f); simp only [layOf] at h; rw [h] at this; exact this⟩
  have hz := (key t i hi).2.1
  unfold zok at hz
  split at hz
  · rename_i cs hcs
    rw [hz, hcs]
    simp [wrapV, Value.cells]
  · cases hz
  · rename_i v h1 h2
    simp only [Bool.not_eq_true'] at hz
    rw [hz]
    simp only [wrapV, Bool.false_eq_true, if_false]
    cases hv : i.zero <;> simp_all [Value.cells, Value.oneCell']

end Go.Proofs.Ytdkelhdlfeendaa.Ab
