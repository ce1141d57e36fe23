/- Types that may be a map's keys. For every program. -/
import Derived.Test.YtllhidkadhoipaaDoorC17
import Derived.Laws.StructEq
import Derived.ChangeKeysEq
import Derived.MapKept
namespace Go.Proofs.YtllhidkadhoipaaDoor.Ab
open Go Go.RowKit
set_option linter.unusedSimpArgs false
set_option linter.unusedVariables false

/-- Keys of one cell. -/
inductive KeyP (P : Program) : TypeId → Ty → Prop
  | bool {t} (h : P.underlying t = some .bool) : KeyP P t .bool
  | int {t k} (h : P.underlying t = some (.int k)) : KeyP P t (.int k)
  | str {t} (h : P.underlying t = some .string) : KeyP P t .str

/-- Keys: of one cell, or an array of such. -/
inductive KeyT (P : Program) : TypeId → Ty → Prop
  | plain {t κ} (h : KeyP P t κ) : KeyT P t κ
  | arr {t e n κ} (h : P.underlying t = some (.array n e)) (hc : P.cellsOf e = 1) (hp : KeyP P e κ) : KeyT P t (.arr n κ)

theorem bytes_of_list (x y : List UInt8) : ((⟨x.toArray⟩ : ByteArray) == ⟨y.toArray⟩) = (x == y) := by
  cases h : x == y with
  | true => rw [eq_of_beq h]; exact (MapKept.bytes_beq _ _).2 rfl
  | false =>
    cases h2 : ((⟨x.toArray⟩ : ByteArray) == ⟨y.toArray⟩) with
    | false => rfl
    | true =>
      have := (MapKept.bytes_beq _ _).1 h2
      have hx : x = y := by simpa using congrArg (fun b : ByteArray => b.data.toList) this
      rw [hx, beq_self_eq_true] at h
      cases h

section
variable {P : Program} {S : Nat → Prop} {w : World}

theorem KeyP.spec {t : TypeId} {κ : Ty} (h : KeyP P t κ) {x : κ.I} {cs : List Value} (hx : RepC S w κ x cs) : ∃ v, cs = [v] ∧ (∀ n em, (Instr.checkKey em (n + 1) t v).run P w = .ok () w) ∧
    (∀ (l : Array Value) off, l[off]? = some v → (part t l off).run P w = .ok v w) ∧
    ∀ (y : κ.I) ds, RepC S w κ y ds → ∃ v', ds = [v'] ∧ (∀ n, (Op.equalIn (n + 1) t v v').run P w = .ok (κ.beq x y) w) ∧ (κ.beq x y = true → ∀ n, Instr.sameBits n v' v = true) ∧
      ∀ d b, P.underlying t = some d → Instr.sameNow d v v' = some b → b = κ.beq x y := by
  cases h with
  | bool h =>
    cases hx
    refine ⟨_, rfl, fun n em => by simp [Instr.checkKey, run_underlying h], fun l off hl => by simp [part, isAgg, run_underlying h, hl], fun y ds hy => ?_⟩
    cases hy
    refine ⟨_, rfl, fun n => run_equalIn_bool' w n t x y h, fun e n => ?_, fun d b hd hs => ?_⟩
    · have e : x = y := eq_of_beq e
      subst e
      cases n <;> simp [Instr.sameBits]
    · rw [h] at hd; cases hd
      simp [Instr.sameNow] at hs
      exact hs.symm
  | @int k h =>
    cases hx
    refine ⟨_, rfl, fun n em => by simp [Instr.checkKey, run_underlying h], fun l off hl => by simp [part, isAgg, run_underlying h, hl], fun y ds hy => ?_⟩
    cases hy
    refine ⟨_, rfl, fun n => run_equalIn_int w n t k k x y h, fun e n => ?_, fun d b hd hs => ?_⟩
    · have e : x = y := eq_of_beq e
      subst e
      cases n <;> simp [Instr.sameBits]
    · rw [h] at hd; cases hd
      simp [Instr.sameNow] at hs
      exact hs.symm
  | str h =>
    cases hx
    refine ⟨_, rfl, fun n em => by simp [Instr.checkKey, run_underlying h, strV], fun l off hl => by simp [part, isAgg, run_underlying h, hl], fun y ds hy => ?_⟩
    cases hy
    refine ⟨_, rfl, fun n => ?_, fun e n => ?_, fun d b hd hs => ?_⟩
    · have := run_equalIn_string (P := P) w n t ⟨x.toArray⟩ ⟨y.toArray⟩ h
      rw [ByteArray.toList_eq, ByteArray.toList_eq] at this
      exact this
    · have e : x = y := eq_of_beq e
      subst e
      cases n <;> simp [Instr.sameBits, strV, MapKept.bytes_beq]
    · rw [h] at hd; cases hd
      simp only [Instr.sameNow, strV, Option.some.injEq] at hs
      rw [← hs, bytes_of_list]
      rfl

theorem KeyP.under {t : TypeId} {κ : Ty} (h : KeyP P t κ) : P.underlying t = some (match κ with | .bool => .bool | .int k => .int k | _ => .string) := by cases h <;> assumption

theorem KeyP.notAgg {t : TypeId} {κ : Ty} (h : KeyP P t κ) : κ.isAgg = false := by cases h <;> rfl

theorem KeyP.checks {e : TypeId} {κ : Ty} (h : KeyP P e κ) (hc : P.cellsOf e = 1) {i : TypeInfo} (hi : P.info? e = some i) (em : Bool) (n : Nat) : ∀ {xs : List κ.I} {cs : List Value}, RepL (RepC S w κ) xs cs → ∀ (c0 : List Value),
    (forIn (List.range' c0.length xs.length) PUnit.unit fun j _ => do Instr.checkKey em (n + 1) e (← part e (c0 ++ cs).toArray (j * (← sizeOf e))); pure (ForInStep.yield PUnit.unit)).run P w = .ok PUnit.unit w
  | [], _, _, _ => by simp
  | x :: xs, _, ⟨c1, c2, rfl, h1, h2⟩, c0 => by
    obtain ⟨v, rfl, k1, k2, _⟩ := h.spec h1
    have ih := KeyP.checks h hc hi em n h2 (c0 ++ [v])
    have hp : (part e (c0 ++ ([v] ++ c2)).toArray c0.length).run P w = .ok v w := k2 _ _ (by simp)
    simp only [List.length_cons, List.range'_succ, List.forIn_cons, Sem.run_bind, run_sizeOf w hi, Result.andThen_ok, hc, Nat.mul_one, hp, k1, Sem.run_pure]
    simpa [Nat.add_comm, hc] using ih

theorem KeyP.eqs {e : TypeId} {κ : Ty} (h : KeyP P e κ) (hc : P.cellsOf e = 1) (n : Nat) : ∀ {xs ys : List κ.I} {cs ds : List Value}, RepL (RepC S w κ) xs cs → RepL (RepC S w κ) ys ds → xs.length = ys.length → ∀ (c0 d0 : List Value), c0.length = d0.length →
    (Op.eqItems (n + 1) e 1 (c0 ++ cs).toArray (d0 ++ ds).toArray (List.range' c0.length xs.length)).run P w = .ok (Ty.beq.listBeq κ.beq xs ys) w
  | [], [], _, _, _, _, _, _, _, _ => by simp [Op.eqItems, Ty.beq.listBeq]
  | x :: xs, y :: ys, _, _, ⟨c1, c2, rfl, h1, h2⟩, ⟨d1, d2, rfl, g1, g2⟩, hl, c0, d0, h0 => by
    obtain ⟨v, rfl, k1, k2, k3⟩ := h.spec h1
    obtain ⟨v', rfl, q1, q2, q3⟩ := k3 y _ g1
    obtain ⟨v'', e', _, k2', _⟩ := h.spec g1
    cases e'
    have ih := KeyP.eqs h hc n h2 g2 (by simpa using hl) (c0 ++ [v]) (d0 ++ [v']) (by simp [h0])
    have hp : (part e (c0 ++ ([v] ++ c2)).toArray c0.length).run P w = .ok v w := k2 _ _ (by simp)
    have hp' : (part e (d0 ++ ([v'] ++ d2)).toArray c0.length).run P w = .ok v' w := k2' _ _ (by rw [h0]; simp)
    simp only [List.length_cons, List.range'_succ, Op.eqItems, Sem.run_bind, Nat.mul_one, hp, hp', q1, Result.andThen_ok]
    cases hb : κ.beq x y with
    | false => simp [Ty.beq.listBeq, hb]
    | true => simpa [Ty.beq.listBeq, hb] using ih
  | [], _ :: _, _, _, _, _, hl, _, _, _ => by simp at hl
  | _ :: _, [], _, _, _, _, hl, _, _, _ => by simp at hl

theorem KeyP.bits {e : TypeId} {κ : Ty} (h : KeyP P e κ) (n : Nat) : ∀ {xs ys : List κ.I} {cs ds : List Value}, RepL (RepC S w κ) xs cs → RepL (RepC S w κ) ys ds → Ty.beq.listBeq κ.beq xs ys = true →
    cs.length = ds.length ∧ (ds.zip cs).all (fun (x, y) => Instr.sameBits n x y) = true
  | [], [], _, _, h1, h2, _ => by cases h1; cases h2; simp
  | x :: xs, y :: ys, _, _, ⟨c1, c2, rfl, h1, h2⟩, ⟨d1, d2, rfl, g1, g2⟩, hb => by
    obtain ⟨v, rfl, k1, k2, k3⟩ := h.spec h1
    obtain ⟨v', rfl, q1, q2, q3⟩ := k3 y _ g1
    simp only [Ty.beq.listBeq, Bool.and_eq_true] at hb
    obtain ⟨i1, i2⟩ := KeyP.bits h n h2 g2 hb.2
    refine ⟨by simp [i1], ?_⟩
    simp only [List.singleton_append, List.zip_cons_cons, List.all_cons, q2 hb.1 n, Bool.true_and]
    exact i2
  | [], _ :: _, _, _, _, _, hb => by simp [Ty.beq.listBeq] at hb
  | _ :: _, [], _, _, _, _, hb => by simp [Ty.beq.listBeq] at hb
end

theorem KeyT.ok {P : Program} {t : TypeId} {κ : Ty} (h : KeyT P t κ) : KeyOK P t κ := by
  intro S w x cs k hx hk
  cases h with
  | plain h =>
    obtain ⟨v, rfl, k1, k2, k3⟩ := h.spec hx
    rw [h.notAgg] at hk
    obtain ⟨hk, _⟩ : [v] = [k] ∧ _ := hk
    cases hk
    refine ⟨fun em => k1 9999 em, fun y ds k' hy hk' => ?_⟩
    obtain ⟨v', rfl, q1, q2, q3⟩ := k3 y ds hy
    rw [h.notAgg] at hk'
    obtain ⟨hk', _⟩ : [v'] = [k'] ∧ _ := hk'
    cases hk'
    exact ⟨q1 9999, fun e => q2 e 10000, q3⟩
  | @arr e n κ h hc hp =>
    have hk : k = .agg cs.toArray := by simpa [wrapV, Ty.isAgg] using hk
    subst hk
    obtain ⟨i, hi⟩ := info_of_underlying hp.under
    obtain ⟨hl, hr⟩ := hx
    refine ⟨fun em => ?_, fun y ds k' hy hk' => ?_⟩
    · have := KeyP.checks hp hc hi em 9998 hr []
      have hl : x.length = n := hl
      rw [show (10000 : Nat) = 9999 + 1 from rfl, Instr.checkKey]
      simp only [Sem.run_bind, run_underlying h, Result.andThen_ok]
      simp only [Std.Legacy.Range.forIn_eq_forIn_range', Std.Legacy.Range.size, Nat.sub_zero, Nat.add_one_sub_one, Nat.div_one]
      rw [hl] at this
      simp only [List.length_nil, List.nil_append] at this
      rw [this]
      simp
    · have hk' : k' = .agg ds.toArray := by simpa [wrapV, Ty.isAgg] using hk'
      subst hk'
      obtain ⟨hl', hr'⟩ := hy
      refine ⟨?_, fun e => ?_, fun d b hd hs => ?_⟩
      · have := KeyP.eqs hp hc 9998 hr hr' (hl.trans hl'.symm) [] [] rfl
        show (Op.equalIn (9999 + 1) t _ _).run P w = _
        rw [run_equalIn_array w 9999 _ _ h hi, hc, List.range_eq_range', ← hl]
        exact this
      · obtain ⟨i1, i2⟩ := KeyP.bits hp 9999 hr hr' e
        show Instr.sameBits (9999 + 1) _ _ = true
        simp only [Instr.sameBits, Bool.and_eq_true]
        exact ⟨by simp [i1], by simpa using i2⟩
      · rw [h] at hd; cases hd
        simp [Instr.sameNow] at hs

end Go.Proofs.YtllhidkadhoipaaDoor.Ab
