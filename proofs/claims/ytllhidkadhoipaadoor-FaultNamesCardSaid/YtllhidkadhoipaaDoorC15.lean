/- Abstract states as lists, running operations over them, and what is kept at a loop's head. For every program whose types are as told. -/
import Derived.Test.YtllhidkadhoipaaDoorC14
namespace Go.Proofs.YtllhidkadhoipaaDoor.Ab
open Go Go.RowKit

abbrev St := List (Loc × Cell)

def St.get : St → Mem
  | [], _ => none
  | (l, c) :: r, x => match l.beq x with
    | true => some c
    | false => St.get r x

def St.put (st : St) (l : Loc) (c : Cell) : St := (l, c) :: st

theorem get_put (st : St) (l : Loc) (c : Cell) : (st.put l c).get = upd st.get l c := by
  funext x
  unfold upd
  by_cases e : x = l
  · subst e; simp [St.put, St.get, Loc.beq_self]
  · rw [if_neg e]
    simp only [St.put, St.get, Loc.beq_ne (Ne.symm e)]

theorem upd_same {L : Mem} {l : Loc} {c : Cell} (h : L l = some c) : upd L l c = L := by
  funext x
  unfold upd
  split
  · rename_i e; rw [e, h]
  · rfl

theorem get_mem {st : St} {l : Loc} {c : Cell} (h : st.get l = some c) : (l, c) ∈ st := by
  induction st with
  | nil => cases h
  | cons p r ih =>
    obtain ⟨m, d⟩ := p
    simp only [St.get] at h
    cases hb : m.beq l with
    | true => rw [hb] at h; cases h; rw [Loc.beq_iff.1 hb]; exact List.mem_cons_self
    | false => rw [hb] at h; exact List.mem_cons_of_mem _ (ih h)

/-! ### Running -/

section
variable {R : Type}

/-- What is known of functions: an answer is handed on. -/
abbrev Ctx (R : Type) := FuncId → List D → (D → Option R) → Option R

def exec (Γ : Ctx R) : Pr → St → List Loc → List Loc → (St → List Loc → List Loc → Option R) → Option R
  | .ret, st, rs, ws, k => k st rs.reverse ws.reverse
  | .rd l f, st, rs, ws, k => exec Γ (f (st.get l)) st (l :: rs) ws k
  | .wr l c p, st, rs, ws, k => exec Γ p (st.put l c) rs (l :: ws) k
  | .gd b p, st, rs, ws, k => match b with
    | true => exec Γ p st rs ws k
    | false => none
  | .br b p q, st, rs, ws, k => match b with
    | true => exec Γ p st rs ws k
    | false => exec Γ q st rs ws k
  | .call f ds p, st, rs, ws, k => Γ f ds fun d => exec Γ (p d) st rs ws k
  | .fail, _, _, _, _ => none

/-- An answer of what is known is a call's. -/
def CtxOK (P : Program) (lay : Lay) (Γ : Ctx R) : Prop := ∀ f ds k r, Γ f ds k = some r → ∃ d, Means P lay f ds d ∧ k d = some r

theorem exec_ok {Θ : FuncId → List D → D → Prop} {Γ : Ctx R} (hΓ : ∀ f ds k r, Γ f ds k = some r → ∃ d, Θ f ds d ∧ k d = some r) {r : R} : ∀ {p : Pr} {st : St} {rs ws : List Loc} {k : St → List Loc → List Loc → Option R}, exec Γ p st rs ws k = some r →
    ∃ st' rs' ws', Run Θ p st.get st'.get rs' ws' ∧ k st' (rs.reverse ++ rs') (ws.reverse ++ ws') = some r
  | .ret, st, rs, ws, k, h => ⟨st, [], [], .ret, by simpa [exec] using h⟩
  | .rd l f, st, rs, ws, k, h => by
    obtain ⟨st', rs', ws', h1, h2⟩ := exec_ok hΓ (p := f (st.get l)) h
    exact ⟨st', l :: rs', ws', .rd h1, by simpa using h2⟩
  | .wr l c p, st, rs, ws, k, h => by
    obtain ⟨st', rs', ws', h1, h2⟩ := exec_ok hΓ (p := p) h
    rw [get_put] at h1
    exact ⟨st', rs', l :: ws', .wr h1, by simpa using h2⟩
  | .gd b p, st, rs, ws, k, h => by
    cases b with
    | false => cases h
    | true =>
      obtain ⟨st', rs', ws', h1, h2⟩ := exec_ok hΓ (p := p) h
      exact ⟨st', rs', ws', .gd rfl h1, h2⟩
  | .br b p q, st, rs, ws, k, h => by
    cases b with
    | true =>
      obtain ⟨st', rs', ws', h1, h2⟩ := exec_ok hΓ (p := p) h
      exact ⟨st', rs', ws', .brT rfl h1, h2⟩
    | false =>
      obtain ⟨st', rs', ws', h1, h2⟩ := exec_ok hΓ (p := q) h
      exact ⟨st', rs', ws', .brF rfl h1, h2⟩
  | .call f ds p, st, rs, ws, k, h => by
    obtain ⟨d, h1, h2⟩ := hΓ _ _ _ _ h
    obtain ⟨st', rs', ws', h3, h4⟩ := exec_ok hΓ (p := p d) h2
    exact ⟨st', rs', ws', .call h1 h3, h4⟩
  | .fail, _, _, _, _, h => by cases h

def dstOK (N : Nat) (o : Oper) : Bool :=
  match o.dst with
  | some n => Nat.blt n N
  | none => true

/-- An operation with its guard. -/
def gexec (Γ : Ctx R) (lay : Lay) (N : Nat) (ops : Array Oper) (o : Oper) (st : St) (k : St → List Loc → List Loc → Option R) : Option R :=
  match dstOK N o with
  | false => none
  | true => match o.guard with
    | none => exec Γ (opPr lay o) st [] [] k
    | some (j, want) => match guardT ops j with
      | none => none
      | some t => match st.get (.tmp t) with
        | some (.d (.val .bool b)) => match b with
          | true => match want with
            | true => exec Γ (opPr lay o) (st.put (.tmp t) (.d (.val .bool true))) [.tmp t] [] k
            | false => exec Γ (putD o.dst (.tup [])) (st.put (.tmp t) (.d (.val .bool true))) [.tmp t] [] k
          | false => match want with
            | true => exec Γ (putD o.dst (.tup [])) (st.put (.tmp t) (.d (.val .bool false))) [.tmp t] [] k
            | false => exec Γ (opPr lay o) (st.put (.tmp t) (.d (.val .bool false))) [.tmp t] [] k
        | some (.d (.tup [])) => exec Γ (putD o.dst (.tup [])) st [.tmp t] [] k
        | _ => none

theorem gexec_ok {P : Program} {lay : Lay} {Γ : Ctx R} (hΓ : CtxOK P lay Γ) {N : Nat} {ops : Array Oper} {o : Oper} {st : St} {k : St → List Loc → List Loc → Option R} {r : R} (h : gexec Γ lay N ops o st k = some r) :
    (∀ n, o.dst = some n → n < N) ∧ ∃ st' rs ws, Run (Means P lay) (gPr lay ops o) st.get st'.get rs ws ∧ k st' rs ws = some r := by
  unfold gexec at h
  cases hd : dstOK N o with
  | false => rw [hd] at h; cases h
  | true =>
    rw [hd] at h
    refine ⟨fun n hn => by simp only [dstOK, hn] at hd; exact Nat.le_of_ble_eq_true hd, ?_⟩
    unfold gPr
    cases hg : o.guard with
    | none =>
      rw [hg] at h
      obtain ⟨st', rs', ws', h1, h2⟩ := exec_ok hΓ h
      exact ⟨st', rs', ws', h1, by simpa using h2⟩
    | some gw =>
      obtain ⟨j, want⟩ := gw
      rw [hg] at h
      simp only at h ⊢
      cases ht : guardT ops j with
      | none => rw [ht] at h; cases h
      | some t =>
        rw [ht] at h
        simp only at h ⊢
        split at h
        · rename_i b hb
          have same : ∀ c, b = c → (st.put (.tmp t) (.d (.val .bool c))).get = st.get := fun c e => by rw [get_put]; subst e; exact upd_same hb
          cases b <;> cases want <;> simp only at h <;> obtain ⟨st', rs', ws', h1, h2⟩ := exec_ok hΓ h <;> rw [same _ rfl] at h1 <;>
            refine ⟨st', .tmp t :: rs', ws', .rd ?_, by simpa using h2⟩ <;> rw [hb]
          · exact .brT rfl h1
          · exact .brF rfl h1
          · exact .brF rfl h1
          · exact .brT rfl h1
        · rename_i hb
          obtain ⟨st', rs', ws', h1, h2⟩ := exec_ok hΓ h
          refine ⟨st', .tmp t :: rs', ws', .rd ?_, by simpa using h2⟩
          rw [hb]
          exact h1
        · cases h

def runOps (Γ : Ctx R) (lay : Lay) (N : Nat) (ops : Array Oper) : List Oper → St → List (List Loc × List Loc) → (St → List (List Loc × List Loc) → Option R) → Option R
  | [], st, fs, k => k st fs
  | o :: rest, st, fs, k => gexec Γ lay N ops o st fun st' rs ws => runOps Γ lay N ops rest st' (fs ++ [(rs, ws)]) k

theorem runOps_ok {P : Program} {lay : Lay} {Γ : Ctx R} (hΓ : CtxOK P lay Γ) {N : Nat} {ops : Array Oper} {r : R} : ∀ {l : List Oper} {st : St} {fs : List (List Loc × List Loc)} {k : St → List (List Loc × List Loc) → Option R}, runOps Γ lay N ops l st fs k = some r →
    (∀ o ∈ l, ∀ n, o.dst = some n → n < N) ∧ ∃ st' fs', Chain (Means P lay) lay ops l st.get st'.get fs' ∧ k st' (fs ++ fs') = some r
  | [], st, fs, k, h => ⟨by simp, st, [], .nil, by simpa [runOps] using h⟩
  | o :: l, st, fs, k, h => by
    obtain ⟨h0, st1, rs, ws, h1, h2⟩ := gexec_ok hΓ h
    obtain ⟨h3, st2, fs2, h4, h5⟩ := runOps_ok hΓ h2
    refine ⟨fun o' ho' => ?_, st2, (rs, ws) :: fs2, .cons h1 h4, by simpa using h5⟩
    rcases List.mem_cons.1 ho' with rfl | ho'
    · exact h0
    · exact h3 o' ho'

/-! ### Calls that are run in place -/

/-- How a function is run in place: its number, where its objects' numbers begin, how many slots its caller has, what it is handed, from which state; what it gives back is handed on. -/
abbrev Inl (R : Type) := FuncId → Nat → Nat → List D → St → (D → St → Option R) → Option R

def noInl {R : Type} : Inl R := fun _ _ _ _ _ _ => none

/-- An answer tells what a call comes to: the caller's frame is as it was, the memory as told. -/
def InlOK (P : Program) (inl : Inl R) : Prop := ∀ f ob ds st k r (E : Env), inl f ob E.N ds st k = some r → Enters P f ∧
  ∀ (G : Gh) (a : Act) (w : World) (vs : List Value), Abs E G st.get a w → All2 (DV G st.get w) ds vs →
    Calls P f vs.toArray w fun e w' => ∃ v d st' G', e = .returned v ∧ Abs E G' st'.get a w' ∧ DV G' st'.get w' d v ∧ k d st' = some r

theorem noInl_ok {P : Program} : InlOK P (noInl (R := R)) := fun _ _ _ _ _ _ _ h => by cases h

def evSt (st : St) : List Operand → Option (List D)
  | [] => some []
  | .tmp t :: xs => match st.get (.tmp t) with
    | some (.d d) => match evSt st xs with
      | some ds => some (d :: ds)
      | none => none
    | _ => none
  | .const v :: xs => match evSt st xs with
    | some ds => some (ofV v :: ds)
    | none => none
  | .func f :: xs => match evSt st xs with
    | some ds => some (.raw (.func (.func f) #[] #[]) :: ds)
    | none => none
  | .global _ :: _ => none

theorem evSt_ok {E : Env} {G : Gh} {st : St} {a : Act} {w : World} (ha : Abs E G st.get a w) : ∀ {xs : List Operand} {ds : List D}, evSt st xs = some ds → All2 (DV G st.get w) ds (xs.map a.eval)
  | [], _, h => by cases h; exact .nil
  | .tmp t :: xs, ds, h => by
    simp only [evSt] at h
    split at h
    · rename_i d hd
      split at h
      · rename_i ds' hds; cases h; exact .cons (ha.tmp t d hd).2 (evSt_ok ha hds)
      · cases h
    · cases h
  | .const v :: xs, ds, h => by
    simp only [evSt] at h
    split at h
    · rename_i ds' hds; cases h; exact .cons (ofV_ok v) (evSt_ok ha hds)
    · cases h
  | .func f :: xs, ds, h => by
    simp only [evSt] at h
    split at h
    · rename_i ds' hds; cases h; exact .cons ⟨[_], ⟨_, rfl, rfl, rfl⟩, rfl, rfl⟩ (evSt_ok ha hds)
    · cases h
  | .global _ :: _, _, h => by cases h

/-- A call that is to be run in place. -/
def inlOf (lay : Lay) (st : St) (o : Oper) : Option (FuncId × List Operand × List D) :=
  match o.guard with
  | some _ => none
  | none => match o.op with
    | .call c => match c.callee with
      | .value (.func f) => match lay.sp f with
        | .inl => some (f, c.args.toList, [])
        | _ => none
      | .value (.tmp t) => match st.get (.tmp t) with
        | some (.d (.clo f cs)) => match lay.sp f with
          | .inl => match cs.all D.atom with
            | true => some (f, c.args.toList, cs)
            | false => none
          | _ => none
        | _ => none
      | _ => none
    | _ => none

def putSt (dst : Option Tmp) (d : D) (st : St) : St :=
  match dst with
  | some n => st.put (.tmp n) (.d d)
  | none => st

/-- Operations one behind the other, some calls in place. -/
def runText (Γ : Ctx R) (inl : Inl R) (lay : Lay) (N : Nat) (ops : Array Oper) : List Oper → St → (St → Option R) → Option R
  | [], st, k => k st
  | o :: rest, st, k => match inlOf lay st o with
    | none => gexec Γ lay N ops o st fun st' _ _ => runText Γ inl lay N ops rest st' k
    | some (f, xs, cs) => match dstOK N o with
      | false => none
      | true => match evSt st xs with
        | some ds => inl f ((lay.ob + (match o.dst with
          | some n => n
          | none => 0) + 1) * 1000) N (ds ++ cs) st fun d st' => runText Γ inl lay N ops rest (putSt o.dst d st') k
        | none => none

theorem runText_ok {P : Program} {lay : Lay} (hlay : LayOK P lay) {Γ : Ctx R} (hΓ : CtxOK P lay Γ) {inl : Inl R} (hI : InlOK P inl) {E : Env} {ops : Array Oper} {k : St → Option R} {r : R} {Q : Exit → Act → World → Prop}
    (hk : ∀ st', k st' = some r → ∀ G a w, Abs E G st'.get a w → Q .normal a w) : ∀ (l : List Oper) (i : Nat) (st : St), runText Γ inl lay E.N ops l st k = some r → (∀ j, j < l.length → ops[i + j]? = l[j]?) →
      ∀ G a w, Abs E G st.get a w → wpOps P ops Q (List.range' i l.length) a w
  | [], _, st, h, _, G, a, w, ha => hk st h G a w ha
  | o :: l, i, st, h, hi, G, a, w, ha => by
    have hrest : ∀ j, j < l.length → ops[i + 1 + j]? = l[j]? := fun j hj => by have := hi (j + 1) (by simp; omega); simpa [Nat.add_assoc, Nat.add_comm 1 j] using this
    have hio : ops[i]? = some o := by simpa using hi 0 (by simp)
    rw [List.length_cons, List.range'_succ, wpOps_cons]
    simp only [runText] at h
    split at h
    · obtain ⟨hn, st', rs, ws, h1, h2⟩ := gexec_ok hΓ h
      exact gop_sound hlay (fun _ _ _ h => h) hio h1 ha hn fun G' a' w' ha' => runText_ok hlay hΓ hI hk l (i + 1) st' h2 hrest G' a' w' ha'
    · rename_i f xs cs hf
      split at h
      · cases h
      · rename_i hd
        split at h
        · rename_i ds hds
          obtain ⟨hent, hcalls⟩ := hI _ _ _ _ _ _ _ h
          have hn : ∀ n, o.dst = some n → n < E.N := fun n hn => by simp only [dstOK, hn] at hd; exact Nat.le_of_ble_eq_true hd
          -- the operation
          obtain ⟨c, vs0, hg, hrun, hcs⟩ : ∃ (c : Call) (vs0 : List Value), o.guard = none ∧ (execOp a.eval o).run P w = .ok (.enter f (c.args.map a.eval ++ vs0.toArray)) w ∧ All2 (DV G st.get w) cs vs0 ∧ xs = c.args.toList := by
            unfold inlOf at hf
            split at hf
            · cases hf
            · rename_i hg
              split at hf
              · rename_i c ho
                split at hf
                · rename_i f' hc
                  split at hf
                  · cases hf
                    refine ⟨c, [], hg, ?_, .nil, rfl⟩
                    rw [call_run ho hc hent]
                    simp
                  · cases hf
                · rename_i t hc
                  split at hf
                  · rename_i f' cs' hl
                    split at hf
                    · split at hf
                      · rename_i hat
                        cases hf
                        obtain ⟨vs0, hv, hcs⟩ := clo_at ha hl hat
                        exact ⟨c, vs0, hg, call_run_clo ho hc hv hent, hcs, rfl⟩
                      · cases hf
                    · cases hf
                  · cases hf
                · cases hf
              · cases hf
          obtain ⟨hcs, rfl⟩ := hcs
          unfold wpOp
          rw [hio]
          simp only
          have hw : Region.wanted o (yielded ops a.tmps) = true := by simp [Region.wanted, hg]
          rw [if_pos hw]
          refine .inl ?_
          unfold Oper.wp
          rw [hrun, Oper.upon_enter]
          have hargs : c.args.map a.eval ++ vs0.toArray = (c.args.toList.map a.eval ++ vs0).toArray := by rw [← List.append_toArray, ← Array.toList_map, Array.toArray_toList]
          rw [hargs]
          have happ : ∀ {l : List D} {m : List Value}, All2 (DV G st.get w) l m → All2 (DV G st.get w) (l ++ cs) (m ++ vs0) := by
            intro l m h
            induction h with
            | nil => exact hcs
            | cons r _ ih => exact .cons r ih
          refine (hcalls G a w _ ha (happ (evSt_ok ha hds))).mono ?_
          rintro e w' ⟨v, d, st', G', rfl, ha', hd', hk'⟩
          refine runText_ok hlay hΓ hI hk l (i + 1) _ hk' hrest G' _ w' ?_
          unfold putSt
          cases hdst : o.dst with
          | none => simpa [Act.put] using ha'
          | some n =>
            have := ha'.put (hn n hdst) hd'
            simp only
            rw [get_put]
            exact this
        · cases h

/-- A region. -/
def runRegion (Γ : Ctx R) (inl : Inl R) (lay : Lay) (N : Nat) (ops : Array Oper) (draw : Bool) (st : St) (k : St → Option R) : Option R :=
  match draw with
  | false => runText Γ inl lay N ops ops.toList st k
  | true => runOps Γ lay N ops ops.toList st [] fun st' fs => match indep ops.toList fs with
    | true => k st'
    | false => none

theorem runRegion_ok {P : Program} {lay : Lay} (hlay : LayOK P lay) (hm : P.follows .mixedOrders = true) {Γ : Ctx R} (hΓ : CtxOK P lay Γ) {inl : Inl R} (hI : InlOK P inl) {E : Env} {id : Nat} {ops : Array Oper} {draw : Bool} {st : St} {k : St → Option R} {r : R} {Q : Exit → Act → World → Prop}
    (h : runRegion Γ inl lay E.N ops draw st k = some r) {G : Gh} {a : Act} {w : World} (ha : Abs E G st.get a w) (hk : ∀ st', k st' = some r → ∀ G a w, Abs E G st'.get a w → Q .normal a w) : (Code.region id ops draw).wp P Q a w := by
  cases draw with
  | false =>
    refine wp_region ?_
    have := runText_ok (Q := Q) hlay hΓ hI hk ops.toList 0 st h (fun j hj => by simp) G a w ha
    rw [List.range_eq_range']
    simpa using this
  | true =>
    obtain ⟨hn, st', fs, h1, h2⟩ := runOps_ok hΓ h
    simp only [List.nil_append] at h2
    cases hi : indep ops.toList fs with
    | false => rw [hi] at h2; cases h2
    | true =>
      rw [hi] at h2
      exact region_any hlay (fun _ _ _ h => h) hm h1 hi hn ha fun G' a' w' ha' => hk st' h2 G' a' w' ha'
end

end Go.Proofs.YtllhidkadhoipaaDoor.Ab
