/- Abstract states as lists, running operations over them, and what is kept at a loop's head. For every program whose types are as told. -/
import Derived.Test.YtdkelhdlfeendaaC14
namespace Go.Proofs.Ytdkelhdlfeendaa.Ab
open Go Go.RowKit

abbrev St := List (Loc × Cell)

def St.get : St → Mem
  | [], _ => none
  | (l, c) :: r, x => match l.beq x with
    | true => some c
    | false => St.get r x

def St.put (st : St) (l : Loc) (c : Cell) : St := (l, c) :: st

theorem get_put (st : St) (l : Loc) (c : Cell) : (st.put l c).get = upd st.get l c := by
  funext x
  unfold upd
  by_cases e : x = l
  · subst e; simp [St.put, St.get, Loc.beq_self]
  · rw [if_neg e]
    simp only [St.put, St.get, Loc.beq_ne (Ne.symm e)]

theorem upd_same {L : Mem} {l : Loc} {c : Cell} (h : L l = some c) : upd L l c = L := by
  funext x
  unfold upd
  split
  · rename_i e; rw [e, h]
  · rfl

theorem get_mem {st : St} {l : Loc} {c : Cell} (h : st.get l = some c) : (l, c) ∈ st := by
  induction st with
  | nil => cases h
  | cons p r ih =>
    obtain ⟨m, d⟩ := p
    simp only [St.get] at h
    cases hb : m.beq l with
    | true => rw [hb] at h; cases h; rw [Loc.beq_iff.1 hb]; exact List.mem_cons_self
    | false => rw [hb] at h; exact List.mem_cons_of_mem _ (ih h)

/-! ### Running -/

section
variable {R : Type}

/-- What is known of functions: an answer is handed on. -/
abbrev Ctx (R : Type) := FuncId → List D → (D → Option R) → Option R

def exec (Γ : Ctx R) : Pr → St → List Loc → List Loc → (St → List Loc → List Loc → Option R) → Option R
  | .ret, st, rs, ws, k => k st rs.reverse ws.reverse
  | .rd l f, st, rs, ws, k => exec Γ (f (st.get l)) st (l :: rs) ws k
  | .wr l c p, st, rs, ws, k => exec Γ p (st.put l c) rs (l :: ws) k
  | .gd b p, st, rs, ws, k => match b with
    | true => exec Γ p st rs ws k
    | false => none
  | .br b p q, st, rs, ws, k => match b with
    | true => exec Γ p st rs ws k
    | false => exec Γ q st rs ws k
  | .call f ds p, st, rs, ws, k => Γ f ds fun d => exec Γ (p d) st rs ws k
  | .fail, _, _, _, _ => none

/-- An answer of what is known is a call's. -/
def CtxOK (P : Program) (Γ : Ctx R) : Prop := ∀ f ds k r, Γ f ds k = some r → ∃ d, CallsAbs P f ds d ∧ k d = some r

theorem exec_ok {P : Program} {Γ : Ctx R} (hΓ : CtxOK P Γ) {r : R} : ∀ {p : Pr} {st : St} {rs ws : List Loc} {k : St → List Loc → List Loc → Option R}, exec Γ p st rs ws k = some r →
    ∃ st' rs' ws', Run (CallsAbs P) p st.get st'.get rs' ws' ∧ k st' (rs.reverse ++ rs') (ws.reverse ++ ws') = some r
  | .ret, st, rs, ws, k, h => ⟨st, [], [], .ret, by simpa [exec] using h⟩
  | .rd l f, st, rs, ws, k, h => by
    obtain ⟨st', rs', ws', h1, h2⟩ := exec_ok hΓ (p := f (st.get l)) h
    exact ⟨st', l :: rs', ws', .rd h1, by simpa using h2⟩
  | .wr l c p, st, rs, ws, k, h => by
    obtain ⟨st', rs', ws', h1, h2⟩ := exec_ok hΓ (p := p) h
    rw [get_put] at h1
    exact ⟨st', rs', l :: ws', .wr h1, by simpa using h2⟩
  | .gd b p, st, rs, ws, k, h => by
    cases b with
    | false => cases h
    | true =>
      obtain ⟨st', rs', ws', h1, h2⟩ := exec_ok hΓ (p := p) h
      exact ⟨st', rs', ws', .gd rfl h1, h2⟩
  | .br b p q, st, rs, ws, k, h => by
    cases b with
    | true =>
      obtain ⟨st', rs', ws', h1, h2⟩ := exec_ok hΓ (p := p) h
      exact ⟨st', rs', ws', .brT rfl h1, h2⟩
    | false =>
      obtain ⟨st', rs', ws', h1, h2⟩ := exec_ok hΓ (p := q) h
      exact ⟨st', rs', ws', .brF rfl h1, h2⟩
  | .call f ds p, st, rs, ws, k, h => by
    obtain ⟨d, h1, h2⟩ := hΓ _ _ _ _ h
    obtain ⟨st', rs', ws', h3, h4⟩ := exec_ok hΓ (p := p d) h2
    exact ⟨st', rs', ws', .call h1 h3, h4⟩
  | .fail, _, _, _, _, h => by cases h

def dstOK (N : Nat) (o : Oper) : Bool :=
  match o.dst with
  | some n => Nat.blt n N
  | none => true

/-- An operation with its guard. -/
def gexec (Γ : Ctx R) (lay : Lay) (N : Nat) (ops : Array Oper) (o : Oper) (st : St) (k : St → List Loc → List Loc → Option R) : Option R :=
  match dstOK N o with
  | false => none
  | true => match o.guard with
    | none => exec Γ (opPr lay o) st [] [] k
    | some (j, want) => match guardT ops j with
      | none => none
      | some t => match st.get (.tmp t) with
        | some (.d (.val .bool b)) => match b with
          | true => match want with
            | true => exec Γ (opPr lay o) (st.put (.tmp t) (.d (.val .bool true))) [.tmp t] [] k
            | false => exec Γ (putD o.dst (.tup [])) (st.put (.tmp t) (.d (.val .bool true))) [.tmp t] [] k
          | false => match want with
            | true => exec Γ (putD o.dst (.tup [])) (st.put (.tmp t) (.d (.val .bool false))) [.tmp t] [] k
            | false => exec Γ (opPr lay o) (st.put (.tmp t) (.d (.val .bool false))) [.tmp t] [] k
        | some (.d (.tup [])) => exec Γ (putD o.dst (.tup [])) st [.tmp t] [] k
        | _ => none

theorem gexec_ok {P : Program} {Γ : Ctx R} (hΓ : CtxOK P Γ) {lay : Lay} {N : Nat} {ops : Array Oper} {o : Oper} {st : St} {k : St → List Loc → List Loc → Option R} {r : R} (h : gexec Γ lay N ops o st k = some r) :
    (∀ n, o.dst = some n → n < N) ∧ ∃ st' rs ws, Run (CallsAbs P) (gPr lay ops o) st.get st'.get rs ws ∧ k st' rs ws = some r := by
  unfold gexec at h
  cases hd : dstOK N o with
  | false => rw [hd] at h; cases h
  | true =>
    rw [hd] at h
    refine ⟨fun n hn => by simp only [dstOK, hn] at hd; exact Nat.le_of_ble_eq_true hd, ?_⟩
    unfold gPr
    cases hg : o.guard with
    | none =>
      rw [hg] at h
      obtain ⟨st', rs', ws', h1, h2⟩ := exec_ok hΓ h
      exact ⟨st', rs', ws', h1, by simpa using h2⟩
    | some gw =>
      obtain ⟨j, want⟩ := gw
      rw [hg] at h
      simp only at h ⊢
      cases ht : guardT ops j with
      | none => rw [ht] at h; cases h
      | some t =>
        rw [ht] at h
        simp only at h ⊢
        split at h
        · rename_i b hb
          have same : ∀ c, b = c → (st.put (.tmp t) (.d (.val .bool c))).get = st.get := fun c e => by rw [get_put]; subst e; exact upd_same hb
          cases b <;> cases want <;> simp only at h <;> obtain ⟨st', rs', ws', h1, h2⟩ := exec_ok hΓ h <;> rw [same _ rfl] at h1 <;>
            refine ⟨st', .tmp t :: rs', ws', .rd ?_, by simpa using h2⟩ <;> rw [hb]
          · exact .brT rfl h1
          · exact .brF rfl h1
          · exact .brF rfl h1
          · exact .brT rfl h1
        · rename_i hb
          obtain ⟨st', rs', ws', h1, h2⟩ := exec_ok hΓ h
          refine ⟨st', .tmp t :: rs', ws', .rd ?_, by simpa using h2⟩
          rw [hb]
          exact h1
        · cases h

def runOps (Γ : Ctx R) (lay : Lay) (N : Nat) (ops : Array Oper) : List Oper → St → List (List Loc × List Loc) → (St → List (List Loc × List Loc) → Option R) → Option R
  | [], st, fs, k => k st fs
  | o :: rest, st, fs, k => gexec Γ lay N ops o st fun st' rs ws => runOps Γ lay N ops rest st' (fs ++ [(rs, ws)]) k

theorem runOps_ok {P : Program} {Γ : Ctx R} (hΓ : CtxOK P Γ) {lay : Lay} {N : Nat} {ops : Array Oper} {r : R} : ∀ {l : List Oper} {st : St} {fs : List (List Loc × List Loc)} {k : St → List (List Loc × List Loc) → Option R}, runOps Γ lay N ops l st fs k = some r →
    (∀ o ∈ l, ∀ n, o.dst = some n → n < N) ∧ ∃ st' fs', Chain (CallsAbs P) lay ops l st.get st'.get fs' ∧ k st' (fs ++ fs') = some r
  | [], st, fs, k, h => ⟨by simp, st, [], .nil, by simpa [runOps] using h⟩
  | o :: l, st, fs, k, h => by
    obtain ⟨h0, st1, rs, ws, h1, h2⟩ := gexec_ok hΓ h
    obtain ⟨h3, st2, fs2, h4, h5⟩ := runOps_ok hΓ h2
    refine ⟨fun o' ho' => ?_, st2, (rs, ws) :: fs2, .cons h1 h4, by simpa using h5⟩
    rcases List.mem_cons.1 ho' with rfl | ho'
    · exact h0
    · exact h3 o' ho'

/-- A region. -/
def runRegion (Γ : Ctx R) (lay : Lay) (N : Nat) (ops : Array Oper) (draw : Bool) (st : St) (k : St → Option R) : Option R :=
  match draw with
  | false => runOps Γ lay N ops ops.toList st [] fun st' _ => k st'
  | true => runOps Γ lay N ops ops.toList st [] fun st' fs => match indep ops.toList fs with
    | true => k st'
    | false => none

theorem runRegion_ok {P : Program} {lay : Lay} (hlay : LayOK P lay) (hm : P.follows .mixedOrders = true) {Γ : Ctx R} (hΓ : CtxOK P Γ) {E : Env} {id : Nat} {ops : Array Oper} {draw : Bool} {st : St} {k : St → Option R} {r : R} {Q : Exit → Act → World → Prop}
    (h : runRegion Γ lay E.N ops draw st k = some r) {G : Gh} {a : Act} {w : World} (ha : Abs E G st.get a w) (hk : ∀ st', k st' = some r → ∀ G a w, Abs E G st'.get a w → Q .normal a w) : (Code.region id ops draw).wp P Q a w := by
  cases draw with
  | false =>
    obtain ⟨hn, st', fs, h1, h2⟩ := runOps_ok hΓ h
    exact region_text hlay (fun _ _ _ h => h) h1 hn ha fun G' a' w' ha' => hk st' h2 G' a' w' ha'
  | true =>
    obtain ⟨hn, st', fs, h1, h2⟩ := runOps_ok hΓ h
    simp only [List.nil_append] at h2
    cases hi : indep ops.toList fs with
    | false => rw [hi] at h2; cases h2
    | true =>
      rw [hi] at h2
      exact region_any hlay (fun _ _ _ h => h) hm h1 hi hn ha fun G' a' w' ha' => hk st' h2 G' a' w' ha'
end

/-! ### What is kept -/

inductive KL where
  | tmp (n : Nat)
  | cell (id off : Nat)

inductive KI where
  | val (l : KL) (τ : Ty)
  | vec (l : KL) (id : Nat) (e : TypeId) (τ : Ty)
  | ptr (l : KL) (id off : Nat)
  | box (id : Nat)

@[reducible] def KI.T : KI → Type
  | .val _ τ => τ.I
  | .vec _ _ _ τ => List τ.I
  | _ => Unit

@[reducible] def KX : List KI → Type
  | [] => Unit
  | i :: r => i.T × KX r

def curLoc (st : St) : KL → Option Loc
  | .tmp n => some (.tmp n)
  | .cell id off => match st.get (.obj id) with
    | some (.box g) => some (.cell id g off)
    | _ => none

def newLoc : KL → Loc
  | .tmp n => .tmp n
  | .cell id off => .cell id 0 off

def curD (st : St) (l : KL) : Option D :=
  match curLoc st l with
  | some x => match st.get x with
    | some (.d d) => some d
    | _ => none
  | none => none

/-- A sealed slice is data. -/
def told (st : St) (d : D) : D :=
  match d with
  | .vec id g => match st.get (.obj id) with
    | some (.sl g' τ xs) => match Nat.beq g g' with
      | true => .val (.slice τ) xs
      | false => d
    | _ => d
  | d => d

def keepI (st : St) : (i : KI) → Option i.T
  | .val l τ => match curD st l with
    | some d => (told st d).asTy τ
    | none => none
  | .vec l id e τ => match curD st l with
    | some (.raw v) => bif isNilSlice v then some [] else none
    | some (.vec id' g) => match st.get (.obj id) with
      | some (.vec g' e' τ' xs) => if h : τ' = τ then (bif Nat.beq id id' && Nat.beq g g' && Nat.beq e e' then some (castTy (a := .slice τ') (b := .slice τ) (congrArg Ty.slice h) xs) else none) else none
      | _ => none
    | _ => none
  | .ptr l id off => match curD st l with
    | some (.ptr id' g off') => match st.get (.obj id) with
      | some (.box g') => bif Nat.beq id id' && Nat.beq g g' && Nat.beq off off' then some () else none
      | _ => none
    | _ => none
  | .box id => match st.get (.obj id) with
    | some (.box _) => some ()
    | _ => none

def keep (st : St) : (p : List KI) → Option (KX p)
  | [] => some ()
  | i :: r => match keepI st i with
    | some x => match keep st r with
      | some y => some (x, y)
      | none => none
    | none => none

def mkI : (i : KI) → i.T → St
  | .val l τ, x => [(newLoc l, .d (.val τ x))]
  | .vec l id e τ, xs => [(newLoc l, .d (.vec id 0)), (.obj id, .vec 0 e τ xs)]
  | .ptr l id off, _ => [(newLoc l, .d (.ptr id 0 off))]
  | .box id, _ => [(.obj id, .box 0)]

def mk : (p : List KI) → KX p → St
  | [], _ => []
  | i :: r, x => mkI i x.1 ++ mk r x.2

def KI.vecId : KI → Option Nat
  | .vec _ id _ _ => some id
  | _ => none
def KI.boxId : KI → Option Nat
  | .box id => some id
  | _ => none
def KI.loc : KI → Option KL
  | .val l _ => some l
  | .vec l _ _ _ => some l
  | .ptr l _ _ => some l
  | .box _ => none
def inNat (n : Nat) (l : List Nat) : Bool := l.any (Nat.beq n)
def noDup : List Nat → Bool
  | [] => true
  | n :: l => !(inNat n l) && noDup l

/-- A plan that can be kept to. -/
def planOK (p : List KI) : Bool :=
  noDup (p.filterMap KI.vecId) && (p.filterMap KI.vecId).all (fun n => !(inNat n (p.filterMap KI.boxId))) &&
  p.all fun i => (match i with
    | .ptr _ id _ => inNat id (p.filterMap KI.boxId)
    | _ => true) && (match i.loc with
    | some (.cell id _) => inNat id (p.filterMap KI.boxId)
    | _ => true)

theorem inNat_iff {n : Nat} {l : List Nat} : inNat n l = true ↔ n ∈ l := by
  simp only [inNat, List.any_eq_true, Nat.beq_eq]
  exact ⟨fun ⟨m, h1, h2⟩ => h2 ▸ h1, fun h => ⟨n, h, rfl⟩⟩

/-- Is this slice a nil one now? -/
def isNilAt (st : St) (l : KL) : Bool :=
  match curD st l with
  | some (.raw _) => true
  | _ => false

def nilIds (st : St) : List KI → List Nat
  | [] => []
  | .vec l id _ _ :: r => bif isNilAt st l then id :: nilIds st r else nilIds st r
  | _ :: r => nilIds st r

theorem nilIds_sub {st : St} {n : Nat} : ∀ {p : List KI}, n ∈ nilIds st p → n ∈ p.filterMap KI.vecId
  | [], h => by cases h
  | .vec l id e τ :: r, h => by
    simp only [nilIds] at h
    cases hb : isNilAt st l with
    | true =>
      rw [hb, cond_true] at h
      rcases List.mem_cons.1 h with rfl | h
      · simp [KI.vecId]
      · simp [KI.vecId, nilIds_sub h]
    | false => rw [hb, cond_false] at h; simp [KI.vecId, nilIds_sub h]
  | .val _ _ :: r, h => by simpa [KI.vecId] using nilIds_sub (p := r) h
  | .ptr _ _ _ :: r, h => by simpa [KI.vecId] using nilIds_sub (p := r) h
  | .box _ :: r, h => by simpa [KI.vecId] using nilIds_sub (p := r) h

theorem nilIds_iff {st : St} {l : KL} {id : Nat} {e : TypeId} {τ : Ty} {p : List KI} (hd : noDup (p.filterMap KI.vecId) = true) (h : KI.vec l id e τ ∈ p) : id ∈ nilIds st p ↔ isNilAt st l = true := by
  induction p with
  | nil => cases h
  | cons i r ih =>
    rcases List.mem_cons.1 h with h1 | h1
    · subst h1
      simp only [List.filterMap_cons, KI.vecId, noDup, Bool.and_eq_true, Bool.not_eq_true'] at hd
      have hnot : id ∉ nilIds st r := fun hc => by
        have := inNat_iff.2 (nilIds_sub hc)
        rw [hd.1] at this; cases this
      simp only [nilIds]
      cases hb : isNilAt st l with
      | true => simp
      | false => simp [hnot]
    · cases hi : i with
      | vec l' id' e' τ' =>
        rw [hi] at hd
        simp only [List.filterMap_cons, KI.vecId, noDup, Bool.and_eq_true, Bool.not_eq_true'] at hd
        have hne : id ≠ id' := fun e1 => by
          subst e1
          have : id ∈ r.filterMap KI.vecId := List.mem_filterMap.2 ⟨.vec l id e τ, h1, rfl⟩
          rw [inNat_iff.2 this] at hd
          exact absurd hd.1 (by simp)
        have ih' := ih hd.2 h1
        simp only [nilIds]
        cases hb : isNilAt st l' with
        | true => simp [hne, ih']
        | false => simpa using ih'
      | val _ _ => rw [hi] at hd; exact ih hd h1
      | ptr _ _ _ => rw [hi] at hd; exact ih hd h1
      | box _ => rw [hi] at hd; exact ih hd h1

theorem vec_uniq {id : Nat} {l l' : KL} {e e' : TypeId} {τ τ' : Ty} {p : List KI} (hd : noDup (p.filterMap KI.vecId) = true) (h : KI.vec l id e τ ∈ p) (h' : KI.vec l' id e' τ' ∈ p) : KI.vec l id e τ = KI.vec l' id e' τ' := by
  induction p with
  | nil => cases h
  | cons i r ih =>
    rcases List.mem_cons.1 h with h1 | h1
    · subst h1
      rcases List.mem_cons.1 h' with h2 | h2
      · exact h2.symm
      · exfalso
        simp only [List.filterMap_cons, KI.vecId, noDup, Bool.and_eq_true, Bool.not_eq_true'] at hd
        have : id ∈ r.filterMap KI.vecId := List.mem_filterMap.2 ⟨_, h2, rfl⟩
        rw [inNat_iff.2 this] at hd
        cases hd.1
    · rcases List.mem_cons.1 h' with h2 | h2
      · exfalso
        subst h2
        simp only [List.filterMap_cons, KI.vecId, noDup, Bool.and_eq_true, Bool.not_eq_true'] at hd
        have : id ∈ r.filterMap KI.vecId := List.mem_filterMap.2 ⟨_, h1, rfl⟩
        rw [inNat_iff.2 this] at hd
        cases hd.1
      · refine ih ?_ h1 h2
        cases hi : i with
        | vec l' id' e' τ' =>
          rw [hi] at hd
          simp only [List.filterMap_cons, KI.vecId, noDup, Bool.and_eq_true, Bool.not_eq_true'] at hd
          exact hd.2
        | val _ _ => rw [hi] at hd; exact hd
        | ptr _ _ _ => rw [hi] at hd; exact hd
        | box _ => rw [hi] at hd; exact hd

/-- What an item puts down: an object. -/
theorem mkI_obj {i : KI} {y : i.T} {j : Nat} {c : Cell} (h : (Loc.obj j, c) ∈ mkI i y) : (i = .box j ∧ c = .box 0) ∨ ∃ l e τ xs, i = .vec l j e τ ∧ c = .vec 0 e τ xs ∧ HEq y xs := by
  cases i with
  | box id => simp only [mkI, List.mem_singleton, Prod.mk.injEq, Loc.obj.injEq] at h; exact .inl ⟨by rw [h.1], h.2⟩
  | val l τ => cases l <;> simp only [mkI, newLoc, List.mem_singleton, Prod.mk.injEq, reduceCtorEq, false_and] at h
  | ptr l id off => cases l <;> simp only [mkI, newLoc, List.mem_singleton, Prod.mk.injEq, reduceCtorEq, false_and] at h
  | vec l id e τ =>
    have : j = id ∧ c = .vec 0 e τ y := by
      cases l <;> simpa only [mkI, newLoc, List.mem_cons, Prod.mk.injEq, reduceCtorEq, false_and, Loc.obj.injEq, List.not_mem_nil, or_false, false_or] using h
    exact .inr ⟨l, e, τ, y, by rw [this.1], this.2, HEq.rfl⟩

/-- What an item puts down: a slot's or a cell's. -/
theorem mkI_place {i : KI} {y : i.T} {l : Loc} {c : Cell} (hl : (∃ n, l = Loc.tmp n) ∨ ∃ id g off, l = Loc.cell id g off) (h : (l, c) ∈ mkI i y) :
    ∃ kl, i.loc = some kl ∧ newLoc kl = l ∧ ((∃ τ x, i = .val kl τ ∧ HEq y x ∧ c = .d (.val τ x)) ∨ (∃ id off, i = .ptr kl id off ∧ c = .d (.ptr id 0 off)) ∨ ∃ id e τ, i = .vec kl id e τ ∧ c = .d (.vec id 0)) := by
  cases i with
  | box id =>
    simp only [mkI, List.mem_singleton, Prod.mk.injEq] at h
    rcases hl with ⟨n, rfl⟩ | ⟨id, g, off, rfl⟩ <;> cases h.1
  | val kl τ => simp only [mkI, List.mem_singleton, Prod.mk.injEq] at h; exact ⟨kl, rfl, h.1.symm, .inl ⟨τ, y, rfl, HEq.rfl, h.2⟩⟩
  | ptr kl id off => simp only [mkI, List.mem_singleton, Prod.mk.injEq] at h; exact ⟨kl, rfl, h.1.symm, .inr (.inl ⟨id, off, rfl, h.2⟩)⟩
  | vec kl id e τ =>
    simp only [mkI, List.mem_cons, Prod.mk.injEq, List.not_mem_nil, or_false] at h
    rcases h with h | h
    · exact ⟨kl, rfl, h.1.symm, .inr (.inr ⟨id, e, τ, rfl, h.2⟩)⟩
    · rcases hl with ⟨n, rfl⟩ | ⟨id, g, off, rfl⟩ <;> cases h.1

theorem get_of_mem {l : Loc} {c : Cell} : ∀ {s : St}, (l, c) ∈ s → ∃ c', s.get l = some c'
  | [], h => by cases h
  | (m, d) :: r, h => by
    simp only [St.get]
    cases hb : m.beq l with
    | true => exact ⟨d, rfl⟩
    | false =>
      rcases List.mem_cons.1 h with e | h
      · cases e; rw [Loc.beq_self] at hb; cases hb
      · exact get_of_mem h

theorem mk_box {id : Nat} : ∀ {p : List KI} {x : KX p}, KI.box id ∈ p → (Loc.obj id, Cell.box 0) ∈ mk p x
  | [], _, h => by cases h
  | i :: r, x, h => by
    simp only [mk]
    rcases List.mem_cons.1 h with rfl | h
    · exact List.mem_append_left _ (by simp [mkI])
    · exact List.mem_append_right _ (mk_box h)

theorem mk_vec {kl : KL} {id : Nat} {e : TypeId} {τ : Ty} : ∀ {p : List KI} {x : KX p}, KI.vec kl id e τ ∈ p → ∃ c, (Loc.obj id, c) ∈ mk p x
  | [], _, h => by cases h
  | i :: r, x, h => by
    simp only [mk]
    rcases List.mem_cons.1 h with rfl | h
    · exact ⟨_, List.mem_append_left _ (List.mem_cons_of_mem _ List.mem_cons_self)⟩
    · obtain ⟨c, hc⟩ := mk_vec (x := x.2) h
      exact ⟨c, List.mem_append_right _ hc⟩

theorem boxId_mem {id : Nat} {p : List KI} (h : id ∈ p.filterMap KI.boxId) : KI.box id ∈ p := by
  obtain ⟨i, hi, h2⟩ := List.mem_filterMap.1 h
  cases i <;> simp [KI.boxId] at h2
  subst h2
  exact hi

theorem keep_mem {st : St} : ∀ {p : List KI} {x : KX p}, keep st p = some x → ∀ {l : Loc} {c : Cell}, (l, c) ∈ mk p x → ∃ i ∈ p, ∃ y, keepI st i = some y ∧ (l, c) ∈ mkI i y
  | [], _, _, _, _, hm => by cases hm
  | i :: r, x, h, l, c, hm => by
    simp only [keep] at h
    split at h
    · rename_i y hy
      split at h
      · rename_i z hz
        cases h
        simp only [mk] at hm
        rcases List.mem_append.1 hm with hm | hm
        · exact ⟨i, by simp, y, hy, hm⟩
        · obtain ⟨j, hj, u, h1, h2⟩ := keep_mem hz hm
          exact ⟨j, by simp [hj], u, h1, h2⟩
      · cases h
    · cases h

theorem asTy_dc1 {G : Gh} {L L' : Mem} {G' : Gh} {w : World} (hS : G'.S = G.S) {τ : Ty} {d : D} {x : τ.I} {v : Value} (h : d.asTy τ = some x) (hd : DC1 G L w d v) : DC1 G' L' w (.val τ x) v := by
  show RepC G'.S w τ x [v]
  rw [hS]
  cases d with
  | val τ' y =>
    simp only [D.asTy] at h
    split at h
    · rename_i e; cases h; exact castTy_ok e hd
    · cases h
  | raw u => exact as1_ok (show as1 τ (.raw u) = some x from h) hd
  | agg ds => exact hd.elim
  | _ => simp [D.asTy] at h

theorem told_dc1 {E : Env} {G : Gh} {st : St} {w : World} (ha : AbsH E G st.get w) {d : D} {v : Value} (hd : DC1 G st.get w d v) : DC1 G st.get w (told st d) v := by
  unfold told
  split
  · rename_i id g
    split
    · rename_i g' τ xs hl
      split
      · rename_i hb
        obtain ⟨_, c, hc, _, hp⟩ := hd
        rw [hl] at hc
        cases hc
        have : v = G.vv id := hp (beq_nat hb)
        subst this
        exact ⟨_, rfl, ha.sl id g' τ xs hl⟩
      · exact hd
    · exact hd
  · exact hd

theorem told_dv {E : Env} {G : Gh} {st : St} {w : World} (ha : AbsH E G st.get w) {d : D} {v : Value} (hd : DV G st.get w d v) : DV G st.get w (told st d) v := by
  cases d with
  | vec id g =>
    obtain ⟨cs, ⟨v', rfl, h1⟩, h2⟩ := hd
    simp only [D.isAgg, wrapV, Bool.false_eq_true, if_false, List.cons.injEq, and_true] at h2
    obtain ⟨rfl, h3⟩ := h2
    have h4 := told_dc1 ha h1
    refine DC1.dw h4 ?_
    unfold told
    dsimp only
    split
    · split <;> rfl
    · rfl
  | _ => exact hd

/-- What is kept means what it meant. -/
theorem keep_ok {E : Env} {G : Gh} {st : St} {a : Act} {w : World} {p : List KI} {x : KX p} (hp : planOK p = true) (h : keep st p = some x) (ha : Abs E G st.get a w) : ∃ G', Abs E G' (mk p x).get a w := by
  simp only [planOK, Bool.and_eq_true, List.all_eq_true] at hp
  obtain ⟨⟨hnd, hvb⟩, hitems⟩ := hp
  let G' : Gh := { G with vv := fun id => if id ∈ nilIds st p then .slice none 0 0 else G.vv id }
  have hmem : ∀ l c, (mk p x).get l = some c → ∃ i ∈ p, ∃ y, keepI st i = some y ∧ (l, c) ∈ mkI i y := fun l c hg => keep_mem h (get_mem hg)
  have hobj : ∀ id c, (mk p x).get (.obj id) = some c → (KI.box id ∈ p ∧ c = .box 0 ∧ ∃ g0, st.get (.obj id) = some (.box g0)) ∨
      ∃ l e τ xs, KI.vec l id e τ ∈ p ∧ c = .vec 0 e τ xs ∧ keepI st (.vec l id e τ) = some xs := by
    intro id c hg
    obtain ⟨i, hi, y, h1, h2⟩ := hmem _ _ hg
    rcases mkI_obj h2 with ⟨rfl, rfl⟩ | ⟨l, e, τ, xs, rfl, rfl, he⟩
    · simp only [keepI] at h1
      split at h1
      · rename_i g0 hg0; exact .inl ⟨hi, rfl, g0, hg0⟩
      · cases h1
    · cases he; exact .inr ⟨l, e, τ, xs, hi, rfl, h1⟩
  have hbox : ∀ id g, (mk p x).get (.obj id) = some (.box g) → g = 0 ∧ ∃ g0, st.get (.obj id) = some (.box g0) := by
    intro id g hg
    rcases hobj id _ hg with ⟨_, h1, h2⟩ | ⟨l, e, τ, xs, _, h1, _⟩
    · cases h1; exact ⟨rfl, h2⟩
    · cases h1
  have hboxIn : ∀ id, id ∈ p.filterMap KI.boxId → (mk p x).get (.obj id) = some (.box 0) := by
    intro id hid
    obtain ⟨c, hc⟩ := get_of_mem (mk_box (x := x) (boxId_mem hid))
    rcases hobj id _ hc with ⟨_, h1, _⟩ | ⟨l, e, τ, xs, hi, _, _⟩
    · rw [hc, h1]
    · exfalso
      have h3 := hvb id (List.mem_filterMap.2 ⟨_, hi, rfl⟩)
      rw [inNat_iff.2 hid] at h3
      cases h3
  -- a slice that is kept: nil, or there
  have hkv : ∀ l id e τ xs, KI.vec l id e τ ∈ p → keepI st (.vec l id e τ) = some xs →
      (id ∈ nilIds st p ∧ xs = [] ∧ curD st l = some (.raw (.slice none 0 0))) ∨ (id ∉ nilIds st p ∧ ∃ g, curD st l = some (.vec id g) ∧ st.get (.obj id) = some (.vec g e τ xs)) := by
    intro l id e τ xs hi h1
    have hiff := nilIds_iff (st := st) hnd hi
    simp only [keepI] at h1
    split at h1
    · rename_i v hv
      have hnil : isNilAt st l = true := by simp [isNilAt, hv]
      cases hb : isNilSlice v with
      | false => rw [hb] at h1; cases h1
      | true => rw [hb, cond_true] at h1; cases h1; exact .inl ⟨hiff.2 hnil, rfl, by rw [hv, isNilSlice_iff hb]⟩
    · rename_i id' g0 hv
      have hnil : isNilAt st l = false := by simp [isNilAt, hv]
      split at h1
      · rename_i g1 e1 τ1 ys hobj
        split at h1
        · rename_i hτ
          subst hτ
          cases hb : (Nat.beq id id' && Nat.beq g0 g1 && Nat.beq e e1) with
          | false => rw [hb] at h1; cases h1
          | true =>
            rw [hb, cond_true] at h1
            simp only [Bool.and_eq_true] at hb
            have e1 := beq_nat hb.1.1
            have e2 := beq_nat hb.1.2
            have e3 := beq_nat hb.2
            subst e1 e2 e3
            cases h1
            exact .inr ⟨fun hc => absurd (hiff.1 hc) (by rw [hnil]; simp), g0, hv, hobj⟩
        · cases h1
      · cases h1
    · cases h1
  have hvec : ∀ id g e τ xs, (mk p x).get (.obj id) = some (.vec g e τ xs) → g = 0 ∧ ((id ∈ nilIds st p ∧ xs = []) ∨ (id ∉ nilIds st p ∧ ∃ g0, st.get (.obj id) = some (.vec g0 e τ xs))) := by
    intro id g e τ xs hg
    rcases hobj id _ hg with ⟨_, h1, _⟩ | ⟨l, e', τ', ys, hi, h1, h2⟩
    · cases h1
    · cases h1
      rcases hkv l id e τ xs hi h2 with ⟨k1, k2, _⟩ | ⟨k1, g0, _, k2⟩
      · exact ⟨rfl, .inl ⟨k1, k2⟩⟩
      · exact ⟨rfl, .inr ⟨k1, g0, k2⟩⟩
  have hvecIn : ∀ l id e τ, KI.vec l id e τ ∈ p → ∃ ys, (mk p x).get (.obj id) = some (.vec 0 e τ ys) := by
    intro l id e τ hi
    obtain ⟨c0, hc0⟩ := mk_vec (x := x) hi
    obtain ⟨c, hc⟩ := get_of_mem hc0
    rcases hobj id _ hc with ⟨hb, h1, _⟩ | ⟨l', e', τ', ys, hi', h1, h2⟩
    · exfalso
      have h3 := hvb id (List.mem_filterMap.2 ⟨_, hi, rfl⟩)
      rw [inNat_iff.2 (List.mem_filterMap.2 ⟨_, hb, rfl⟩)] at h3
      cases h3
    · have := vec_uniq hnd hi hi'
      cases this
      exact ⟨ys, by rw [hc, h1]⟩
  have hother : ∀ id g τ xs, (mk p x).get (.obj id) ≠ some (.sl g τ xs) := by
    intro id g τ xs hg
    rcases hobj id _ hg with ⟨_, h1, _⟩ | ⟨l, e, τ', ys, _, h1, _⟩ <;> cases h1
  have hown : ∀ id b, ownB G' (mk p x).get id = some b → ownB G st.get id = some b := by
    intro id b hb
    unfold ownB at hb
    split at hb
    · rename_i g hg
      obtain ⟨_, g0, hg0⟩ := hbox id g hg
      cases hb
      simp [ownB, hg0, G']
    · rename_i g e τ xs hg
      rcases hvec id g e τ xs hg with ⟨_, ⟨hn, _⟩ | ⟨hn, g0, hg0⟩⟩
      · simp [G', hn, Value.ownBlock] at hb
      · simp only [ownB, hg0]
        simpa [G', hn] using hb
    · cases hb
  -- one thing in a slot or a cell
  have hone : ∀ l d, (∃ n, l = Loc.tmp n) ∨ (∃ id g off, l = Loc.cell id g off) → (mk p x).get l = some (.d d) → ∃ kl d0, newLoc kl = l ∧ curD st kl = some d0 ∧
      (∀ v, DV G st.get w d0 v → DV G' (mk p x).get w d v) ∧ (∀ v, DC1 G st.get w d0 v → DC1 G' (mk p x).get w d v) ∧ (∀ id off, kl = .cell id off → id ∈ p.filterMap KI.boxId) := by
    intro l d hl hg
    obtain ⟨i, hi, y, h1, h2⟩ := hmem _ _ hg
    have hloc := hitems i hi
    obtain ⟨kl, hk0, hk1, hcase⟩ := mkI_place hl h2
    have hkl : ∀ id off, kl = .cell id off → id ∈ p.filterMap KI.boxId := by
      intro id off e
      subst e
      rw [hk0] at hloc
      exact inNat_iff.1 hloc.2
    rcases hcase with ⟨τ, z, rfl, hz, hc⟩ | ⟨id, off, rfl, hc⟩ | ⟨id, e, τ, rfl, hc⟩
    · cases hz
      cases hc
      simp only [keepI] at h1
      split at h1
      · rename_i d0 hd0
        refine ⟨kl, d0, hk1, hd0, fun v hv => ?_, fun v hv => asTy_dc1 (G := G) (G' := G') rfl h1 (told_dc1 ha.heap hv), hkl⟩
        obtain ⟨cs, k1, k2⟩ := asTy_dv h1 (told_dv ha.heap hv)
        exact ⟨cs, k1, k2⟩
      · cases h1
    · cases hc
      simp only [keepI] at h1
      split at h1
      · rename_i id' g off' hd0
        split at h1
        · rename_i g' hob
          cases hb : (Nat.beq id id' && Nat.beq g g' && Nat.beq off off') with
          | false => rw [hb] at h1; cases h1
          | true =>
            simp only [Bool.and_eq_true] at hb
            have e1 := beq_nat hb.1.1
            have e2 := beq_nat hb.1.2
            have e3 := beq_nat hb.2
            subst e1 e2 e3
            have hnew := hboxIn id (inNat_iff.1 hloc.1)
            have hdc : ∀ v, DC1 G st.get w (.ptr id g off) v → DC1 G' (mk p x).get w (.ptr id 0 off) v := by
              intro v hv
              have hpv := ptr_at (G := G) (w := w) hv hob
              exact ⟨hv.1, .box 0, hnew, Nat.le_refl _, fun _ => hpv⟩
            refine ⟨kl, _, hk1, hd0, fun v hv => ?_, hdc, hkl⟩
            obtain ⟨cs, ⟨v', e4, k1⟩, k2⟩ := hv
            exact ⟨cs, ⟨v', e4, hdc v' k1⟩, k2⟩
        · cases h1
      · cases h1
    · cases hc
      obtain ⟨ys, hN⟩ := hvecIn kl id e τ hi
      rcases hkv kl id e τ y hi h1 with ⟨hin, _, hv⟩ | ⟨hin, g0, hv, hob⟩
      · have hdc : ∀ v, DC1 G st.get w (.raw (.slice none 0 0)) v → DC1 G' (mk p x).get w (.vec id 0) v := by
          intro v hv'
          obtain ⟨rfl, h1c⟩ := hv'
          exact ⟨rfl, .vec 0 e τ ys, hN, Nat.le_refl _, fun _ => by simp [isVecAt, G', hin]⟩
        refine ⟨kl, _, hk1, hv, fun v hv' => ?_, hdc, hkl⟩
        obtain ⟨cs, ⟨v', e4, k1⟩, k2⟩ := hv'
        exact ⟨cs, ⟨v', e4, hdc v' k1⟩, k2⟩
      · have hdc : ∀ v, DC1 G st.get w (.vec id g0) v → DC1 G' (mk p x).get w (.vec id 0) v := by
          intro v hv'
          obtain ⟨h1c, c, hcc, _, hpp⟩ := hv'
          rw [hob] at hcc
          cases hcc
          have hvv : v = G.vv id := hpp rfl
          exact ⟨h1c, .vec 0 e τ ys, hN, Nat.le_refl _, fun _ => by simp [isVecAt, G', hin, hvv]⟩
        refine ⟨kl, _, hk1, hv, fun v hv' => ?_, hdc, hkl⟩
        obtain ⟨cs, ⟨v', e4, k1⟩, k2⟩ := hv'
        exact ⟨cs, ⟨v', e4, hdc v' k1⟩, k2⟩
  refine ⟨G', ⟨⟨?_, ?_, ?_, fun id g τ xs hg => absurd hg (hother id g τ xs), ?_, ?_, ?_, ha.heap.sealed, ha.heap.old, ha.heap.under, ha.heap.start⟩, ha.defers, ha.size, ?_⟩⟩
  · intro id off d g h1 h2
    obtain ⟨rfl, g0, hg0⟩ := hbox id g h2
    obtain ⟨kl, d0, hkl, hcur, _, hdc, _⟩ := hone _ d (.inr ⟨id, 0, off, rfl⟩) h1
    cases kl with
    | tmp n => cases hkl
    | cell id' off' =>
      cases hkl
      simp only [curD, curLoc, hg0] at hcur
      split at hcur
      · rename_i d1 hd1
        cases hcur
        obtain ⟨v, hv, hd⟩ := ha.heap.cell id off d0 g0 hd1 hg0
        exact ⟨v, hv, hdc v hd⟩
      · cases hcur
  · intro id g h1
    obtain ⟨_, g0, hg0⟩ := hbox id g h1
    exact ha.heap.box id g0 hg0
  · intro id g e τ xs h1
    rcases hvec id g e τ xs h1 with ⟨_, ⟨hn, rfl⟩ | ⟨hn, g0, hg0⟩⟩
    · refine ⟨[], ?_, rfl⟩
      simp only [G', hn, if_true, List.length_nil]
      exact World.ownsRow_nil w 0 e τ.sz
    · obtain ⟨cs, hw, hl⟩ := ha.heap.vec id g0 e τ xs hg0
      exact ⟨cs, by simpa [G', hn] using hw, hl⟩
  · intro id g off c h1
    obtain ⟨i, hi, y, k1, k2⟩ := hmem _ _ h1
    obtain ⟨kl, hk0, hk1, _⟩ := mkI_place (.inr ⟨id, g, off, rfl⟩) k2
    cases kl with
    | tmp n => cases hk1
    | cell id' off' =>
      cases hk1
      have hloc := hitems i hi
      rw [hk0] at hloc
      exact ⟨.box 0, hboxIn id (inNat_iff.1 hloc.2), Nat.le_refl _⟩
  · intro id b hb; exact ha.heap.own id b (hown id b hb)
  · intro i j b hij hb hb'; exact ha.heap.apart i j b hij (hown i b hb) (hown j b hb')
  · intro n d h1
    obtain ⟨kl, d0, hkl, hcur, hdv, _, _⟩ := hone _ d (.inl ⟨n, rfl⟩) h1
    cases kl with
    | cell id' off' => cases hkl
    | tmp m =>
      cases hkl
      simp only [curD, curLoc] at hcur
      split at hcur
      · rename_i d1 hd1
        cases hcur
        obtain ⟨h3, h4⟩ := ha.tmp n d0 hd1
        exact ⟨h3, hdv _ h4⟩
      · cases hcur

end Go.Proofs.Ytdkelhdlfeendaa.Ab
