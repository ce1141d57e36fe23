/- A layout as a list. For every program. -/
import Derived.Test.YtllhidkadhoipaaDoorE5
import Derived.Laws.StructEq
namespace Go.Proofs.YtllhidkadhoipaaDoor.Ab
open Go Go.RowKit
set_option linter.unusedSimpArgs false
set_option linter.unusedVariables false
set_option linter.unusedSectionVars false

def layF : List (Nat × LInfo) → TypeId → Option LInfo
  | [], _ => none
  | (n, i) :: r, t => match Nat.beq n t with
    | true => some i
    | false => layF r t

/-- The sorts of the functions that are not of the plain one. -/
def spF : List (Nat × Sp) → FuncId → Sp
  | [], _ => .plain
  | (n, s) :: r, f => match Nat.beq n f with
    | true => s
    | false => spF r f

def layOf (l : List (Nat × LInfo)) (s : List (Nat × Sp)) (cut : Bool := false) : Lay := ⟨layF l, spF s, 0, cut⟩

def SpOK (P : Program) (p : Nat × Sp) : Prop :=
  match p.2 with
  | .clone e τ c => CloneOK P p.1 e τ c
  | .delete e τ => DeleteOK P p.1 e τ
  | _ => True

theorem spF_ok {P : Program} {s : List (Nat × Sp)} (h : ∀ p ∈ s, SpOK P p) {f : FuncId} : SpOK P (f, spF s f) := by
  induction s with
  | nil => trivial
  | cons p r ih =>
    obtain ⟨n, q⟩ := p
    simp only [spF]
    split
    · rename_i hb
      have := beq_nat hb
      subst this
      exact h _ (by simp)
    · exact ih fun p hp => h p (by simp [hp])

def zok (i : LInfo) : Bool :=
  match i.zero with
  | .agg _ => isAggD i.desc
  | .tuple _ => false
  | _ => !isAggD i.desc

def layCheck (i : LInfo) : Bool :=
  Nat.beq i.zero.cells.size i.sz && zok i && i.zero.cells.toList.all Value.oneCell' &&
  match i.ty with
  | some τ => Nat.beq τ.sz i.sz && (τ.isAgg == isAggD i.desc)
  | none => true

inductive LayAll (P : Program) : List (Nat × LInfo) → Prop
  | nil : LayAll P []
  | cons {n : Nat} {i : LInfo} {r : List (Nat × LInfo)} (h1 : P.underlying n = some i.desc) (h2 : (P.info? n).map (fun x => (x.zero, x.size, x.bytes)) = some (some i.zero, i.sz, i.bytes)) (h3 : layCheck i = true) (h : LayAll P r) : LayAll P ((n, i) :: r)

theorem layOf_get {P : Program} {l : List (Nat × LInfo)} (h : LayAll P l) {t : Nat} {i : LInfo} (hi : layF l t = some i) : P.underlying t = some i.desc ∧ (P.info? t).map (fun x => (x.zero, x.size, x.bytes)) = some (some i.zero, i.sz, i.bytes) ∧ layCheck i = true := by
  induction h with
  | nil => cases hi
  | @cons n j r h1 h2 h3 _ ih =>
    simp only [layF] at hi
    split at hi
    · rename_i hb
      cases hi
      have := beq_nat hb
      subst this
      exact ⟨h1, h2, h3⟩
    · exact ih hi

/-! ### Structs that are compared -/

mutual
/-- Values of this type are compared as data of this type. -/
inductive EqT (P : Program) (f : TypeId → Option LInfo) : TypeId → Ty → Nat → Prop
  | bool {t n} (h : P.underlying t = some .bool) : EqT P f t .bool n
  | int {t n k} (h : P.underlying t = some (.int k)) : EqT P f t (.int k) n
  | str {t n} (h : P.underlying t = some .string) : EqT P f t .str n
  | struct {t n τ} (h : P.underlying t = some (.struct (P.fieldsOf t))) (hp : P.stoodInHeld t = false) (hA : τ.isAgg = true) (hf : EqF P f (P.fieldsOf t).toList 0 τ n) : EqT P f t τ (n + 1)
inductive EqF (P : Program) (f : TypeId → Option LInfo) : List Field → Nat → Ty → Nat → Prop
  | nil {off n} : EqF P f [] off .unit n
  | cons {fd fs off a b n j} (hn : (fd.name == "_") = false) (ho : fd.offset = off) (hl : f fd.type = some j) (hc : (Nat.beq j.sz a.sz && (a.isAgg == isAggD j.desc)) = true) (h : EqT P f fd.type a n) (k : EqF P f fs (off + a.sz) b n) : EqF P f (fd :: fs) off (.pair a b) n
end

theorem beq_str (x y : List UInt8) : ((⟨x.toArray⟩ : ByteArray).toList == (⟨y.toArray⟩ : ByteArray).toList) = (x == y) := by
  rw [ByteArray.toList_eq, ByteArray.toList_eq]

section
variable {P : Program} {f : TypeId → Option LInfo}
  (hpart : ∀ {t : TypeId} {j : LInfo} {cs : List Value} {off : Nat} {w : World}, f t = some j → off + j.sz ≤ cs.length → (∀ u ∈ (cs.drop off).take j.sz, u.oneCell' = true) →
    ∃ v, (part t cs.toArray off).run P w = .ok v w ∧ wrapV (isAggD j.desc) ((cs.drop off).take j.sz) v)
include hpart

mutual
theorem EqT.ok {S : Nat → Prop} {w : World} : ∀ {t : TypeId} {τ : Ty} {n : Nat}, EqT P f t τ n → ∀ {x y : τ.I} {cs ds : List Value} {u v : Value} (d : Nat), RepC S w τ x cs → RepC S w τ y ds → wrapV τ.isAgg cs u → wrapV τ.isAgg ds v → (Op.equalIn (d + n + 1) t u v).run P w = .ok (τ.beq x y) w
  | t, _, n, .bool h, x, y, cs, ds, u, v, d, h1, h2, h3, h4 => by
    cases h1; cases h2
    obtain ⟨h3, _⟩ : [_] = [u] ∧ _ := h3
    obtain ⟨h4, _⟩ : [_] = [v] ∧ _ := h4
    cases h3; cases h4
    exact run_equalIn_bool' w _ t x y h
  | t, .int k, n, .int h, x, y, cs, ds, u, v, d, h1, h2, h3, h4 => by
    cases h1; cases h2
    obtain ⟨h3, _⟩ : [_] = [u] ∧ _ := h3
    obtain ⟨h4, _⟩ : [_] = [v] ∧ _ := h4
    cases h3; cases h4
    exact run_equalIn_int w _ t k k x y h
  | t, _, n, .str h, x, y, cs, ds, u, v, d, h1, h2, h3, h4 => by
    cases h1; cases h2
    obtain ⟨h3, _⟩ : [_] = [u] ∧ _ := h3
    obtain ⟨h4, _⟩ : [_] = [v] ∧ _ := h4
    cases h3; cases h4
    have := run_equalIn_string (P := P) w (d + n) t ⟨x.toArray⟩ ⟨y.toArray⟩ h
    rw [beq_str] at this
    exact this
  | t, τ, _, .struct (n := n) h hp hA hf, x, y, cs, ds, u, v, d, h1, h2, h3, h4 => by
    unfold wrapV at h3 h4
    rw [hA, if_pos rfl] at h3 h4
    subst h3 h4
    have := run_equalIn_struct (P := P) w (d + (n + 1)) t cs.toArray ds.toArray h hp
    rw [this]
    have key := EqF.ok hf (d := d) (c0 := []) (d0 := []) h1 h2 rfl rfl
    simpa [Nat.add_assoc] using key
theorem EqF.ok {S : Nat → Prop} {w : World} : ∀ {fs : List Field} {off : Nat} {τ : Ty} {n : Nat}, EqF P f fs off τ n → ∀ {x y : τ.I} {cs ds c0 d0 : List Value} {d : Nat}, RepC S w τ x cs → RepC S w τ y ds → c0.length = off → d0.length = off →
    (Op.eqFields (d + n + 1) (c0 ++ cs).toArray (d0 ++ ds).toArray fs).run P w = .ok (τ.beq x y) w
  | [], off, _, n, .nil, x, y, cs, ds, c0, d0, d, h1, h2, h3, h4 => by simp [Op.eqFields, Ty.beq]
  | fd :: fs, off, _, n, .cons (a := a) (b := b) (j := j) hn ho hl hc h k, x, y, cs, ds, c0, d0, d, h1, h2, h3, h4 => by
    obtain ⟨c1, c2, rfl, p1, p2⟩ := h1
    obtain ⟨e1, e2, rfl, q1, q2⟩ := h2
    simp only [Bool.and_eq_true, beq_iff_eq] at hc
    have hsz := Nat.eq_of_beq_eq_true hc.1
    have hn' : fd.name ≠ "_" := by simpa using hn
    have l1 := RepC.length p1
    have l2 := RepC.length q1
    have t1 : ((c0 ++ (c1 ++ c2)).drop fd.offset).take j.sz = c1 := by
      rw [ho, ← h3, List.drop_left, hsz, ← l1, List.take_left]
    have t2 : ((d0 ++ (e1 ++ e2)).drop fd.offset).take j.sz = e1 := by
      rw [ho, ← h4, List.drop_left, hsz, ← l2, List.take_left]
    obtain ⟨u, hu, wu⟩ := hpart hl (cs := c0 ++ (c1 ++ c2)) (off := fd.offset) (w := w) (by simp; omega) (by rw [t1]; exact RepC.plain p1)
    obtain ⟨v, hv, wv⟩ := hpart hl (cs := d0 ++ (e1 ++ e2)) (off := fd.offset) (w := w) (by simp; omega) (by rw [t2]; exact RepC.plain q1)
    rw [t1, ← hc.2] at wu
    rw [t2, ← hc.2] at wv
    have he := EqT.ok h d p1 q1 wu wv
    have ih := EqF.ok k (d := d) (c0 := c0 ++ c1) (d0 := d0 ++ e1) p2 q2 (by simp [h3, l1]) (by simp [h4, l2])
    simp only [Op.eqFields]
    rw [if_pos hn']
    simp only [Sem.run_bind, hu, hv, he, Result.andThen_ok]
    simp only [List.append_assoc] at ih
    cases hb : a.beq x.1 y.1 with
    | false => simp [Ty.beq, hb]
    | true => simpa [Ty.beq, hb] using ih
end
end

/-- Structs that may be compared. -/
def EqOK (P : Program) (f : TypeId → Option LInfo) (t : TypeId) (i : LInfo) : Prop :=
  i.cmp = true → ∀ τ, i.ty = some τ → τ.isAgg = true ∧ (∃ n, n < 9000 ∧ EqT P f t τ n) ∧ P.eqGuardType P.depth t = false

/-- Types that may be a map's keys. -/
def KeysOK (P : Program) (l : List (Nat × LInfo)) : Prop := ∀ t i, layF l t = some i → i.key = true → ∀ τ, i.ty = some τ → KeyT P t τ

theorem layOf_ok {P : Program} {l : List (Nat × LInfo)} (h : LayAll P l) {s : List (Nat × Sp)} (hs : ∀ p ∈ s, SpOK P p) (heq : ∀ t i, layF l t = some i → EqOK P (layF l) t i) {cut : Bool} (hkeys : KeysOK P l) : LayOK P (layOf l s cut) := by
  have key : ∀ t i, layF l t = some i → i.zero.cells.size = i.sz ∧ zok i = true ∧ (∀ u ∈ i.zero.cells.toList, u.oneCell' = true) ∧ ∀ τ, i.ty = some τ → τ.sz = i.sz ∧ τ.isAgg = isAggD i.desc := by
    intro t i hi
    have h3 := (layOf_get h hi).2.2
    simp only [layCheck, Bool.and_eq_true, List.all_eq_true] at h3
    refine ⟨beq_nat h3.1.1.1, h3.1.1.2, h3.1.2, fun τ hτ => ?_⟩
    have h4 := h3.2
    rw [hτ] at h4
    simp only [Bool.and_eq_true] at h4
    exact ⟨beq_nat h4.1, eq_of_beq h4.2⟩
  have hzok : ∀ t i, layF l t = some i → wrapV (isAggD i.desc) i.zero.cells.toList i.zero := by
    intro t i hi
    have hz := (key t i hi).2.1
    unfold zok at hz
    split at hz
    · rename_i cs hcs
      rw [hz, hcs]
      simp [wrapV, Value.cells]
    · cases hz
    · rename_i v h1 h2
      simp only [Bool.not_eq_true'] at hz
      rw [hz]
      simp only [wrapV, Bool.false_eq_true, if_false]
      cases hv : i.zero <;> simp_all [Value.cells, Value.oneCell']
  -- a layout that compares nothing
  have h0 : LayOK P ⟨fun t => (layF l t).map fun i => { i with cmp := false, key := false }, fun _ => .plain, 0, false⟩ := by
    have get : ∀ {t i}, ((layF l t).map fun i => { i with cmp := false, key := false } : Option LInfo) = some i → ∃ j, layF l t = some j ∧ i = { j with cmp := false, key := false } := by
      intro t i hi
      cases hj : layF l t with
      | none => rw [hj] at hi; cases hi
      | some j => rw [hj] at hi; cases hi; exact ⟨j, rfl, rfl⟩
    refine ⟨fun t i hi => ?_, fun t i hi => ?_, fun t i hi => ?_, fun t i hi => ?_, fun t i hi => ?_, fun t i τ hi => ?_, fun f e τ c h => (by cases h), fun f e τ h => (by cases h), fun t i τ hi _ hc => ?_, fun t i τ hi _ hc => ?_⟩ <;> obtain ⟨j, hj, rfl⟩ := get hi
    · exact (layOf_get h hj).1
    · exact (layOf_get h hj).2.1
    · exact (key t j hj).1
    · exact hzok t j hj
    · exact (key t j hj).2.2.1
    · exact (key t j hj).2.2.2 τ
    · cases hc
    · cases hc
  refine ⟨fun t i hi => (layOf_get h hi).1, fun t i hi => (layOf_get h hi).2.1, fun t i hi => (key t i hi).1, hzok, fun t i hi => (key t i hi).2.2.1, fun t i τ hi => (key t i hi).2.2.2 τ, fun f e τ c h => by have := spF_ok hs (f := f); simp only [layOf] at h; rw [h] at this; exact this, fun f e τ h => by have := spF_ok hs (f := f); simp only [layOf] at h; rw [h] at this; exact this, fun t i τ hi hτ hc S w x y cs ds h1 h2 => ?_, fun t i τ hi hτ hk => (hkeys t i hi hk τ hτ).ok⟩
  obtain ⟨hA, ⟨n, hn, he⟩, hg⟩ := heq t i hi hc τ hτ
  refine ⟨?_, hg⟩
  have key2 := EqT.ok (f := layF l) (fun {t j cs off w} hl h1 h2 => by
    have := run_part_lay h0 (w := w) (t := t) (j := { j with cmp := false, key := false }) (by show (layF l t).map _ = _; rw [hl]; rfl) (cs := cs) (off := off) h1 h2
    exact this) he (9999 - n) h1 h2 (by unfold wrapV; rw [hA, if_pos rfl]) (by unfold wrapV; rw [hA, if_pos rfl]) (w := w)
  rw [show 9999 - n + n + 1 = 10000 by omega] at key2
  exact key2

theorem keys_none {P : Program} {l : List (Nat × LInfo)} (h : l.all (fun p => !p.2.key) = true) : KeysOK P l := by
  intro t i hi hc
  exfalso
  induction l with
  | nil => cases hi
  | cons p r ih =>
    obtain ⟨n, j⟩ := p
    simp only [List.all_cons, Bool.and_eq_true] at h
    simp only [layF] at hi
    split at hi
    · cases hi; rw [hc] at h; cases h.1
    · exact ih h.2 hi

theorem eq_none {P : Program} {l : List (Nat × LInfo)} (h : l.all (fun p => !p.2.cmp) = true) : ∀ t i, layF l t = some i → EqOK P (layF l) t i := by
  intro t i hi hc
  exfalso
  induction l with
  | nil => cases hi
  | cons p r ih =>
    obtain ⟨n, j⟩ := p
    simp only [List.all_cons, Bool.and_eq_true] at h
    simp only [layF] at hi
    split at hi
    · cases hi; rw [hc] at h; cases h.1
    · exact ih h.2 hi

end Go.Proofs.YtllhidkadhoipaaDoor.Ab
