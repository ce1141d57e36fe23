/- A function that gives back a slice of its own making. For every program whose types are as told. -/
import Derived.Test.YtllhidkadhoipaaDoorC18
namespace Go.Proofs.YtllhidkadhoipaaDoor.Ab
open Go Go.RowKit

def ownR (t : Tmp) (e : TypeId) (τ : Ty) (st : St) : Option (List τ.I) :=
  match st.get (.tmp t) with
  | some (.d (.raw v)) => bif isNilSlice v then some [] else none
  | some (.d (.vec id g)) => match st.get (.obj id) with
    | some (.vec g' e' τ' xs) => if h : τ' = τ then (bif Nat.beq g g' && Nat.beq e e' then some (castTy (a := .slice τ') (b := .slice τ) (congrArg Ty.slice h) xs) else none) else none
    | _ => none
  | _ => none

def ownK (t : Tmp) (e : TypeId) (τ : Ty) : Ex → St → Option (List τ.I)
  | .normal, st => ownR t e τ st
  | .ret, st => ownR t e τ st
  | .exit _, _ => none

section
variable {P : Program} {w : World}

/-- At a function's beginning. -/
theorem Abs.start {S : Nat → Prop} {ds : List D} {vs : List Value} {N : Nat} (hbs : Base S w) (hS : ∀ b, S b → b < w.heap.size) (hvs : All2 (SV S w) ds vs) (hN : ds.length ≤ N) :
    Abs ⟨N, w.heap.size, fun _ => False, S, w, fun _ => undef, hbs, fun b hb => ⟨hS b hb, fun h => h⟩⟩ ⟨fun _ => 0, fun _ => .nilFunc, S⟩ (args0 0 ds).get { tmps := vs.toArray ++ Array.replicate (N - vs.toArray.size) undef, defers := [] } w := by
  have hlen := hvs.length
  have hno : ∀ id, (args0 0 ds).get (.obj id) = none := fun id => args0_obj (by simp)
  refine ⟨⟨?_, ?_, ?_, ?_, ?_, hS, fun b _ => ⟨fun h => h, fun h => .inl h⟩, Under.refl _ _ _, rfl⟩, rfl, ?_, ?_, fun n d h => by rw [args0_obj (by simp)] at h; cases h⟩
  · intro id off d g n _ h; rw [hno] at h; cases h
  · intro id c h; rw [hno] at h; cases h
  · intro id g off c h; rw [args0_obj (by simp)] at h; cases h
  · intro id b h; simp [ownB, hno] at h
  · intro i j b _ h; simp [ownB, hno] at h
  · simp; omega
  · intro n d h
    obtain ⟨d', e, _, hg⟩ := args0_get h
    cases e
    rw [Nat.sub_zero] at hg
    obtain ⟨v, hv, hd⟩ := hvs.get hg
    have hlt : n < vs.length := (List.getElem?_eq_some_iff.1 hv).1
    refine ⟨by show n < N; omega, ?_⟩
    have : (vs.toArray ++ Array.replicate (N - vs.toArray.size) undef).getD n undef = v := by
      rw [Array.getD_eq_getD_getElem?, Array.getElem?_append_left (by simpa using hlt)]
      simp [hv]
    rw [this]
    exact hd.mono (step_none _ _ _) (Keep.refl S w)

theorem fn_own {lay : Lay} (hlay : LayOK P lay) (hm : P.follows .mixedOrders = true) {f : FuncId} {fn : Func} {c : Code} {t : Tmp} {e : TypeId} {τ : Ty} {Γ : Ctx (List τ.I)} {inl : Inl (List τ.I)} {pl : Pl (List τ.I)} {ds : List D} {r : List τ.I}
    (hf : P.funcs[f]? = some fn) (hb : fn.body = some c) (hr : fn.results = #[.tmp t]) (hN : Nat.ble ds.length fn.ntmps = true)
    (hΓ : CtxOK P lay Γ) (hI : InlOK P inl) (hpl : PlOK Γ inl lay fn.ntmps pl c (ownK t e τ)) (h : ev Γ inl lay fn.ntmps c pl (args0 0 ds) (ownK t e τ) = some r)
    {S : Nat → Prop} {w : World} {vs : List Value} (hbs : Base S w) (hS : ∀ b, S b → b < w.heap.size) (hvs : All2 (SV S w) ds vs) :
    Calls P f vs.toArray w fun out w' => ∃ v' cs S', out = .returned v' ∧ w'.ownsRow 0 e τ.sz v' r.length cs ∧ RepL (RepC S' w' τ) r cs ∧ (∀ b, v'.ownBlock = some b → w.heap.size ≤ b ∧ ¬ S' b) ∧
      Under w.heap.size (fun _ => False) w w' ∧ (∀ b, S b → S' b) ∧ (∀ b, S' b → b < w'.heap.size ∧ (b < w.heap.size → S b)) := by
  have hstart := Abs.start hbs hS hvs (Nat.le_of_ble_eq_true hN)
  refine calls_of_wp hf hb ?_
  let E : Env := ⟨fn.ntmps, w.heap.size, fun _ => False, S, w, fun _ => undef, hbs, fun b hb => ⟨hS b hb, fun h => h⟩⟩
  refine ev_ok (E := E) hlay hm hΓ hI c pl _ _ _ hpl h ?_ _ _ _ hstart
  have fin : ∀ st', ownR t e τ st' = some r → ∀ G a w', Abs E G st'.get a w' → a.defers = [] ∧ ∃ v, (results fn a.tmps).run P w' = .ok v w' ∧
      ∃ v' cs S', Ending.returned v = .returned v' ∧ w'.ownsRow 0 e τ.sz v' r.length cs ∧ RepL (RepC S' w' τ) r cs ∧ (∀ b, v'.ownBlock = some b → w.heap.size ≤ b ∧ ¬ S' b) ∧
      Under w.heap.size (fun _ => False) w w' ∧ (∀ b, S b → S' b) ∧ (∀ b, S' b → b < w'.heap.size ∧ (b < w.heap.size → S b)) := by
    intro st' ho G a w' ha
    refine ⟨ha.defers, _, results_tmp hr a.tmps P w', ?_⟩
    have rest : Under w.heap.size (fun _ => False) w w' ∧ (∀ b, S b → G.S b) ∧ (∀ b, G.S b → b < w'.heap.size ∧ (b < w.heap.size → S b)) :=
      ⟨ha.heap.under, fun b hb => (ha.heap.old b (hS b hb)).1 hb, fun b hb => ⟨ha.heap.sealed b hb, fun hlt => ((ha.heap.old b hlt).2 hb).resolve_right (fun h => h)⟩⟩
    unfold ownR at ho
    split at ho
    · rename_i v ht
      have hv := (DV_raw (ha.tmp t _ ht).2).1
      cases hn : isNilSlice v with
      | false => rw [hn] at ho; cases ho
      | true =>
        rw [hn, cond_true] at ho
        cases ho
        rw [isNilSlice_iff hn] at hv
        exact ⟨_, [], G.S, rfl, by rw [hv]; exact World.ownsRow_nil _ _ _ _, rfl, by rw [hv]; simp [Value.ownBlock], rest⟩
    · rename_i id g ht
      split at ho
      · rename_i g' e' τ' xs hl
        split at ho
        · rename_i hτ
          subst hτ
          cases hbb : (Nat.beq g g' && Nat.beq e e') with
          | false => rw [hbb] at ho; cases ho
          | true =>
            rw [hbb, cond_true] at ho
            simp only [Bool.and_eq_true] at hbb
            have e1 := beq_nat hbb.1
            have e2 := beq_nat hbb.2
            subst e1 e2
            cases ho
            obtain ⟨_, cc, hcc, _, hpp⟩ := DV_one rfl (ha.tmp t _ ht).2 (by simp) (by simp) (by simp)
            rw [hl] at hcc
            cases hcc
            have hv := hpp rfl
            obtain ⟨cs, hown, hrl⟩ := ha.heap.vec id g e τ' xs hl
            refine ⟨_, cs, G.S, rfl, by rw [hv]; exact hown, hrl, fun b hb => ?_, rest⟩
            rw [hv] at hb
            have h3 := ha.heap.own id b (by simp [ownB, hl, hb, ownC])
            exact ⟨h3.1.resolve_right (fun h => h), h3.2⟩
        · cases ho
      · cases ho
    · cases ho
  intro ex st' he G a w' ha
  cases ex with
  | normal => exact fin st' he G a w' ha
  | ret => exact fin st' he G a w' ha
  | exit id => cases he

theorem enters {f : FuncId} {fn : Func} {c : Code} (hf : P.funcs[f]? = some fn) (hb : fn.body = some c) (hn : (fn.name == "runtime.NumGoroutine") = false) : Enters P f := by
  intro args w
  have hn' : ¬ fn.name = "runtime.NumGoroutine" := by simpa using hn
  unfold callFunc
  simp [hf, hn', hb]

/-- A copy: of nothing, of an empty slice, of a longer one. -/
theorem clone_ok {lay : Lay} (hlay : LayOK P lay) (hm : P.follows .mixedOrders = true) {f : FuncId} {fn : Func} {c : Code} {t : Tmp} {e : TypeId} {τ : Ty} {n : Nat} {Γ : Ctx (List τ.I)} {inl : Inl (List τ.I)}
    (hf : P.funcs[f]? = some fn) (hb : fn.body = some c) (hn : (fn.name == "runtime.NumGoroutine") = false) (hr : fn.results = #[.tmp t]) (hN : Nat.ble 1 fn.ntmps = true) (hΓ : CtxOK P lay Γ) (hI : InlOK P inl)
    (h1 : ev Γ inl lay fn.ntmps c .leaf (args0 0 [.raw (.slice none 0 0)]) (ownK t e τ) = some [])
    (h2 : ∀ a cap, ev Γ inl lay fn.ntmps c .leaf (args0 0 [.raw (.slice (some a) 0 cap)]) (ownK t e τ) = some [])
    (h3 : ∀ x xs, (x :: xs).length * n ≤ maxRoom → (x :: xs).length ≤ maxRoom → ev Γ inl lay fn.ntmps c .leaf (args0 0 [.val (.slice τ) (x :: xs)]) (ownK t e τ) = some (x :: xs)) : CloneOK P f e τ n := by
  refine ⟨enters hf hb hn, fun S w v xs hbs hS hsl hb1 hb2 => ?_⟩
  have raw : ∀ u : Value, u.oneCell' = true → SV S w (.raw u) u := fun u hu => ⟨[u], ⟨u, rfl, rfl, hu⟩, rfl, hu⟩
  cases xs with
  | cons x xs =>
    refine fn_own (pl := .leaf) (ds := [_]) hlay hm hf hb hr hN hΓ hI trivial (h3 x xs hb1 hb2) hbs hS (vs := [v]) (.cons ⟨[v], ⟨v, rfl, hsl⟩, rfl, ?_⟩ .nil)
    rcases hsl with ⟨rfl, _⟩ | ⟨a, cap, cs, rfl, _⟩ <;> rfl
  | nil =>
    rcases hsl with ⟨rfl, _⟩ | ⟨a, cap, cs, rfl, _⟩
    · exact fn_own (pl := .leaf) (ds := [_]) hlay hm hf hb hr hN hΓ hI trivial h1 hbs hS (vs := [_]) (.cons (raw _ rfl) .nil)
    · exact fn_own (pl := .leaf) (ds := [_]) hlay hm hf hb hr hN hΓ hI trivial (h2 a cap) hbs hS (vs := [_]) (.cons (raw _ rfl) .nil)

end
end Go.Proofs.YtllhidkadhoipaaDoor.Ab
