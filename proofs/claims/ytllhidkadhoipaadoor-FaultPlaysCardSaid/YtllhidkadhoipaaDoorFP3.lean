/- The four laws on errors, in plain Lean. -/
import Derived.Test.YtllhidkadhoipaaDoorFP2
namespace Go.Proofs.YtllhidkadhoipaaDoor.Ab.Fp
open Go Go.RowKit Go.Proofs Go.Proofs.YtllhidkadhoipaaDoor.Ab.Fh
set_option maxRecDepth 100000
set_option linter.unusedVariables false
set_option linter.unusedSimpArgs false

def I64 (a : Int) : Prop := -9223372036854775808 ≤ a ∧ a ≤ 9223372036854775807

theorem F15_nil (n : Nat) : F15 n .nil = some [] := rfl

theorem F15_prob (n : Nat) (hn : 30 < n) (c a : Int) (ha : I64 a) : F15 n (.prob c a) = some ((nameOf c ++ [32]) ++ printI a) := by
  have h1 := nameOf_len c
  have h2 := printI_len a
  show Ft.F55 n (some (c, (a, ()))) = _
  unfold Ft.F55
  have e1 : F57 n c = some (nameOf c) := by unfold F57; rw [F17_ok]
  simp only [Option.isSome_some, cond_true, Option.getD_some, e1, F58_ok n hn a ha.1 ha.2]
  rw [decide_eq_true (show (nameOf c).length + ([32] : List UInt8).length ≤ 9223372036854775807 by simp; omega), decide_eq_true (show (nameOf c ++ ([32] : List UInt8)).length + (printI a).length ≤ 9223372036854775807 by simp; omega)]
  rfl

theorem F15_wrap {n : Nat} {e : Er} {s t : List UInt8} (h : F15 n e = some t) (hs : s.length ≤ 1000000) (ht : t.length ≤ 1000000) : F15 n (.wrap e s) = some ((s ++ [58, 32]) ++ t) := by
  show Ft.F59 (fun _ => F15 n e) n (some (e, (s, ()))) = _
  unfold Ft.F59
  simp only [Option.isSome_some, cond_true, Option.getD_some, h]
  rw [decide_eq_true (show s.length + ([58, 32] : List UInt8).length ≤ 9223372036854775807 by simp; omega), decide_eq_true (show (s ++ ([58, 32] : List UInt8)).length + t.length ≤ 9223372036854775807 by simp; omega)]
  rfl

theorem F15_inp {n : Nat} {e : Er} {k : Int} {t : List UInt8} (h : F15 n e = some t) : F15 n (.inp e k) = some t := by
  show Ft.F61 (fun _ => F15 n e) n (some (e, (k, ()))) = _
  unfold Ft.F61
  simp only [Option.isSome_some, cond_true, h]

/-! ### FaultNames -/

theorem F4_j (n : Nat) (a b : Int) : F4 n a b = F4j0 n a b (nameOf a) (nameOf b) (inN a) (inN b) := by
  unfold F4
  rw [F17_ok, F17_ok]
  unfold inN
  by_cases ha : a ≥ 0
  · rw [decide_eq_true ha]
    by_cases hb : b ≥ 0
    · rw [decide_eq_true hb]; rfl
    · rw [decide_eq_false hb]; rfl
  · rw [decide_eq_false ha]
    by_cases hb : b ≥ 0
    · rw [decide_eq_true hb]; rfl
    · rw [decide_eq_false hb]; rfl

theorem faultNames_pure (n : Nat) (a b : Int) : F4 n a b = some true := by
  rw [F4_j]
  unfold F4j0
  rw [F18_ok, nameOf_nil a, nameOf_nil b]
  simp only [beq_self_eq_true, cond_true, Bool.not_not]
  cases ha : inN a
  · simp only [beq_self_eq_true, cond_true, Bool.not_false, awake_ok]
  · cases hb : inN b
    · simp only [beq_self_eq_true, cond_true, cond_false, Bool.not_false, Bool.not_true, awake_ok]
    · simp only [beq_self_eq_true, cond_true, cond_false, Bool.not_true, nameOf_inj ha hb, awake_ok]

/-! ### FaultNone -/

theorem F8_zero (n : Nat) (a : Int) : F8 n 0 a = some .nil := rfl
theorem F10_nil (n : Nat) (s : List UInt8) : F10 n .nil s = some .nil := rfl
theorem F12_nil (n : Nat) (k : Int) : F12 n .nil k = some .nil := rfl
theorem F14_nil (n : Nat) : F14 n .nil = some (0, (0, (0, ()))) := rfl
theorem F16_nil (n : Nat) (c : Int) : F16 n .nil c = some false := rfl

theorem beq3 (x y z : Int) : Ty.beq (.pair (.int .i64) (.pair (.int .i64) (.pair (.int .i64) .unit))) (x, (y, (z, ()))) (x, (y, (z, ()))) = true := by
  show ((x == x) && ((y == y) && ((z == z) && true))) = true
  simp

theorem faultNone_pure (n : Nat) (a : Int) (s : List UInt8) (k c : Int) : F6 n a s k c = some true := by
  unfold F6
  have b0 := beq3 0 0 0
  simp only [F8_zero, F10_nil, F12_nil, F14_nil, F15_nil, F16_nil, Er.isNil, cond_true, beq_self_eq_true, Bool.not_false]
  rw [b0, awake_ok]
  rfl

/-! ### FaultDeep -/

theorem F19_ok (n : Nat) (v c : Int) (hc : 0 < c) (hc2 : c ≤ 1099511627776) : ∃ k, F19 n v c = some k ∧ 0 ≤ k ∧ k < c := by
  unfold F19
  have e : (c == 0) = false := by rw [beq_eq_false_iff_ne]; omega
  simp only [e, Bool.not_false, cond_true]
  have h1 : Int.tmod v c < c := Int.tmod_lt_of_pos v hc
  have h2 : -c < Int.tmod v c := by
    have := Int.tmod_lt_of_pos (-v) hc
    rw [Int.neg_tmod] at this
    omega
  by_cases h : Int.tmod v c < 0
  · rw [decide_eq_true h]
    exact ⟨_, rfl, by rw [wrap64 (by omega) (by omega)]; omega, by rw [wrap64 (by omega) (by omega)]; omega⟩
  · rw [decide_eq_false h]
    exact ⟨_, rfl, by omega, h1⟩

/-- A chain that is of this code, at this place, of this input, with a text that long. -/
structure Chain (n : Nat) (e : Er) (c a i : Int) (len : Nat) : Prop where
  some : e.isNil = false
  inner : Er.inner e = (c, a)
  input : (Er.inputO e).getD 0 = i
  text : ∃ t, F15 n e = Option.some t ∧ t.length = len

theorem Chain.wrap {n : Nat} {e : Er} {c a i : Int} {len : Nat} (h : Chain n e c a i len) (hl : len ≤ 1000000) : Chain n (errWrap e [120]) c a i (len + 3) := by
  obtain ⟨t, ht, htl⟩ := h.text
  have e1 : errWrap e [120] = .wrap e [120] := by unfold errWrap; rw [h.some]; rfl
  rw [e1]
  exact ⟨rfl, h.inner, h.input, _, F15_wrap ht (by simp) (by omega), by simp; omega⟩

theorem Chain.inp {n : Nat} {e : Er} {c a i : Int} {len : Nat} (h : Chain n e c a i len) (k : Int) : Chain n (errInput e k) c a k len := by
  obtain ⟨t, ht, htl⟩ := h.text
  have e1 : errInput e k = .inp e k := by unfold errInput; rw [h.some]; rfl
  rw [e1]
  exact ⟨rfl, h.inner, rfl, _, F15_inp ht, htl⟩

theorem errOf_of {n : Nat} {e : Er} {c a i : Int} {len : Nat} (h : Chain n e c a i len) : errOf e = (c, (a, (i, ()))) := by
  unfold errOf
  rw [h.some, h.inner, h.input]
  rfl
theorem errIs_of {n : Nat} {e : Er} {c a i : Int} {len : Nat} (h : Chain n e c a i len) (x : Int) : errIs e x = (c == x) := by
  unfold errIs
  rw [h.some, h.inner]
  rfl

theorem deep_loop (n : Nat) (hn : 30 < n) (a k : Int) (ha : I64 a) (c : Int) (hc : 1 ≤ c) (hc2 : c ≤ 19) (K : Nat) (hK : K < 200) (hk : IntKind.wrap .i64 (Int.tmod k 200) = (K : Int)) (l : List Int) (base : Nat) (hb : Chain n (.prob c a) c a 0 base) (hbl : base ≤ 1000) :
    ∀ (j i m : Nat) (e : Er) (last : Int), i + j = K → j < m → Chain n e c a last (base + 3 * i) → F5l0 n m a k l c e last (i : Int) = some true := by
  intro j
  induction j with
  | zero =>
    intro i m e last h1 h2 hch
    obtain ⟨m, rfl⟩ : ∃ q, m = q + 1 := ⟨m - 1, by omega⟩
    obtain rfl : i = K := by omega
    show F5l0F n (F5l0 n m) a k l c e last (i : Int) = _
    unfold F5l0F
    obtain ⟨t, ht, htl⟩ := hch.text
    obtain ⟨tb, htb, htbl⟩ := hb.text
    have e8 : F8 n c a = some (.prob c a) := by
      show some (errNew c a) = _
      unfold errNew
      rw [show (c == 0) = false by rw [beq_eq_false_iff_ne]; omega]; rfl
    have e14 : F14 n e = some (c, (a, (last, ()))) := by show some (errOf e) = _; rw [errOf_of hch]
    have e16 : ∀ x, F16 n e x = some (c == x) := fun x => by show some (errIs e x) = _; rw [errIs_of hch]
    have em : Int.tmod c 19 = c % 19 := Int.tmod_eq_emod_of_nonneg (by omega)
    have ne : (c == IntKind.wrap .i64 (Int.tmod c 19 + 1)) = false := by rw [em, wrap64 (by omega) (by omega), beq_eq_false_iff_ne]; omega
    have hlen : ((t.length : Int) == IntKind.wrap .i64 (IntKind.wrap .i64 (3 * (i : Int)) + (tb.length : Int))) = true := by
      rw [wrap64 (x := 3 * (i : Int)) (by omega) (by omega), wrap64 (by omega) (by omega), beq_iff_eq]; omega
    have bb := beq3 c a last
    rw [hk, decide_eq_false (by omega)]
    simp only [show ((200 : Nat) == 0) = false from rfl, show ((19 : Nat) == 0) = false from rfl, Bool.not_false, cond_true, cond_false, e14, hch.some, bb, e16, beq_self_eq_true, ne, ht, e8, htb, hlen, awake_ok]
  | succ j ih =>
    intro i m e last h1 h2 hch
    obtain ⟨m, rfl⟩ : ∃ q, m = q + 1 := ⟨m - 1, by omega⟩
    show F5l0F n (F5l0 n m) a k l c e last (i : Int) = _
    unfold F5l0F
    have hw : IntKind.wrap .i64 ((i : Int) + 1) = ((i + 1 : Nat) : Int) := by rw [wrap64 (by omega) (by omega)]; omega
    have e10 : F10 n e [120] = some (errWrap e [120]) := rfl
    have c1 := hch.wrap (by omega)
    have e3 : base + 3 * i + 3 = base + 3 * (i + 1) := by omega
    rw [e3] at c1
    rw [hk, decide_eq_true (show (i : Int) < (K : Int) by omega)]
    simp only [show ((200 : Nat) == 0) = false from rfl, Bool.not_false, cond_true, e10, hw]
    by_cases hl : (i : Int) < (l.length : Int)
    · have hin : inB (i : Int) l.length = true := by simp [inB]; omega
      rw [decide_eq_true hl, hin]
      have e12 : ∀ x, F12 n (errWrap e [120]) x = some (errInput (errWrap e [120]) x) := fun _ => rfl
      simp only [cond_true, e12]
      exact ih (i + 1) m _ _ (by omega) (by omega) (c1.inp _)
    · rw [decide_eq_false hl]
      exact ih (i + 1) m _ _ (by omega) (by omega) c1

theorem faultDeep_pure (n : Nat) (hn : 300 < n) (code a k : Int) (ha : I64 a) (hk0 : 0 ≤ k) (hk1 : k ≤ 255) (l : List Int) : F5 n code a k l = some true := by
  unfold F5
  obtain ⟨p, hp, p0, p1⟩ := F19_ok n code 19 (by omega) (by omega)
  rw [hp]
  simp only
  rw [wrap64 (x := 1 + p) (by omega) (by omega)]
  have e8 : F8 n (1 + p) a = some (.prob (1 + p) a) := by
    show some (errNew (1 + p) a) = _
    unfold errNew
    rw [show (1 + p == 0) = false by rw [beq_eq_false_iff_ne]; omega]; rfl
  rw [e8]
  have hm : Int.tmod k 200 = k % 200 := Int.tmod_eq_emod_of_nonneg (by omega)
  have hb : Chain n (.prob (1 + p) a) (1 + p) a 0 ((nameOf (1 + p) ++ [32]) ++ printI a).length := ⟨rfl, rfl, rfl, _, F15_prob n (by omega) _ _ ha, rfl⟩
  have h1 := nameOf_len (1 + p)
  have h2 := printI_len a
  exact deep_loop n (by omega) a k ha (1 + p) (by omega) (by omega) (k % 200).toNat (by omega) (by rw [hm, wrap64 (by omega) (by omega)]; omega) l _ hb (by simp; omega) (k % 200).toNat 0 n _ 0 (by omega) (by omega) hb

/-! ### FaultPlays -/

/-- An error, and what the document has of it. -/
def RS (n : Nat) (B : Nat) (e : Er) (b0 : Bool) (b1 b2 b3 : Int) (b4 : List UInt8) : Prop :=
  (e = .nil ∧ b0 = false ∧ b1 = 0 ∧ b2 = 0 ∧ b3 = 0 ∧ b4 = []) ∨
  (e.isNil = false ∧ b0 = true ∧ Er.inner e = (b1, b2) ∧ (Er.inputO e).getD 0 = b3 ∧ F15 n e = some b4 ∧ b4.length ≤ B)

theorem RS.mono {n B C : Nat} {e : Er} {b0 : Bool} {b1 b2 b3 : Int} {b4 : List UInt8} (h : RS n B e b0 b1 b2 b3 b4) (hB : B ≤ C) : RS n C e b0 b1 b2 b3 b4 := by
  rcases h with h | ⟨h1, h2, h3, h4, h5, h6⟩
  · exact .inl h
  · exact .inr ⟨h1, h2, h3, h4, h5, by omega⟩

theorem rs_wrap {n B : Nat} {e : Er} {b0 : Bool} {b1 b2 b3 : Int} {b4 : List UInt8} (h : RS n B e b0 b1 b2 b3 b4) (hB : B ≤ 100000) (w : List UInt8) (hw : w.length ≤ 60) :
    ∃ b4', F11 n (b0, ((b1, (b2, (b3, ()))), (b4, ()))) w = some (b0, ((b1, (b2, (b3, ()))), (b4', ()))) ∧ RS n (B + 62) (errWrap e w) b0 b1 b2 b3 b4' := by
  rcases h with ⟨rfl, rfl, rfl, rfl, rfl, rfl⟩ | ⟨h1, rfl, h3, h4, h5, h6⟩
  · exact ⟨[], rfl, .inl ⟨rfl, rfl, rfl, rfl, rfl, rfl⟩⟩
  · refine ⟨(w ++ [58, 32]) ++ b4, ?_, .inr ?_⟩
    · unfold F11
      simp only [cond_true]
      rw [decide_eq_true (show w.length + ([58, 32] : List UInt8).length ≤ 9223372036854775807 by simp; omega), decide_eq_true (show (w ++ ([58, 32] : List UInt8)).length + b4.length ≤ 9223372036854775807 by simp; omega)]
      rfl
    · have e1 : errWrap e w = .wrap e w := by unfold errWrap; rw [h1]; rfl
      rw [e1]
      exact ⟨rfl, rfl, h3, h4, F15_wrap h5 (by omega) (by omega), by simp; omega⟩

theorem rs_inp {n B : Nat} {e : Er} {b0 : Bool} {b1 b2 b3 : Int} {b4 : List UInt8} (h : RS n B e b0 b1 b2 b3 b4) (k : Int) :
    ∃ b3', F13 n (b0, ((b1, (b2, (b3, ()))), (b4, ()))) k = some (b0, ((b1, (b2, (b3', ()))), (b4, ()))) ∧ RS n B (errInput e k) b0 b1 b2 b3' b4 := by
  rcases h with ⟨rfl, rfl, rfl, rfl, rfl, rfl⟩ | ⟨h1, rfl, h3, h4, h5, h6⟩
  · exact ⟨0, rfl, .inl ⟨rfl, rfl, rfl, rfl, rfl, rfl⟩⟩
  · have e1 : errInput e k = .inp e k := by unfold errInput; rw [h1]; rfl
    rw [e1]
    exact ⟨k, rfl, .inr ⟨rfl, rfl, h3, rfl, F15_inp h5, h6⟩⟩

abbrev NxF := List (List UInt8) → List Int → Int → Er → Int → Bool → Int → Int → Int → List UInt8 → Option Bool

theorem rs_check {n B : Nat} {rF : NxF} {e : Er} {b0 : Bool} {b1 b2 b3 : Int} {b4 : List UInt8} (h : RS n B e b0 b1 b2 b3 b4) (t2 : List (List UInt8)) (t3 : List Int) (t4 t14 : Int) :
    F3j3 n rF t2 t3 t4 e t14 b0 b1 b2 b3 b4 = rF t2 t3 t4 e (IntKind.wrap .i64 (t14 + 1)) b0 b1 b2 b3 b4 := by
  unfold F3j3
  rcases h with ⟨rfl, rfl, rfl, rfl, rfl, rfl⟩ | ⟨h1, rfl, h3, h4, h5, h6⟩
  · have b := beq3 0 0 0
    simp only [F14_nil, F15_nil, F16_nil, Er.isNil, b, Bool.not_true, beq_self_eq_true, cond_false]
  · have e14 : F14 n e = some (b1, (b2, (b3, ()))) := by show some (errOf e) = _; unfold errOf; rw [h1, h3, h4]; rfl
    have e16 : ∀ x, F16 n e x = some (b1 == x) := fun x => by show some (errIs e x) = _; unfold errIs; rw [h1, h3]; rfl
    have b := beq3 b1 b2 b3
    simp only [e14, h5, e16, h1, b, Bool.not_false, Bool.not_true, beq_self_eq_true, cond_false, cond_true]

theorem plays_loop (n : Nat) (words : List (List UInt8)) (inputs : List Int) (other : Int) (hw : words.length ≤ 20) (hi : inputs.length ≤ 20) (hws : ∀ w ∈ words, w.length ≤ 60) :
    ∀ (j i m : Nat) (e : Er) (b0 : Bool) (b1 b2 b3 : Int) (b4 : List UInt8), i + j = max words.length inputs.length → j < m → RS n (1000 + 62 * i) e b0 b1 b2 b3 b4 →
      F3l1 n m words inputs other e (i : Int) b0 b1 b2 b3 b4 = some true := by
  have hmx : (if (inputs.length : Int) > (words.length : Int) then (inputs.length : Int) else (words.length : Int)) = ((max words.length inputs.length : Nat) : Int) := by
    split <;> omega
  intro j
  induction j with
  | zero =>
    intro i m e b0 b1 b2 b3 b4 h1 h2 h
    obtain ⟨m, rfl⟩ : ∃ q, m = q + 1 := ⟨m - 1, by omega⟩
    show F3l1F n (F3l1 n m) words inputs other e (i : Int) b0 b1 b2 b3 b4 = _
    unfold F3l1F
    rw [hmx, decide_eq_false (by omega), awake_ok]
    rfl
  | succ j ih =>
    intro i m e b0 b1 b2 b3 b4 h1 h2 h
    obtain ⟨m, rfl⟩ : ∃ q, m = q + 1 := ⟨m - 1, by omega⟩
    have hiw : IntKind.wrap .i64 ((i : Int) + 1) = ((i + 1 : Nat) : Int) := by rw [wrap64 (by omega) (by omega)]; omega
    have fin : ∀ (e : Er) (b0 : Bool) (b1 b2 b3 : Int) (b4 : List UInt8), RS n (1000 + 62 * (i + 1)) e b0 b1 b2 b3 b4 → F3j2 n (F3l1 n m) words inputs other e (i : Int) b0 b1 b2 b3 b4 = some true := by
      intro e b0 b1 b2 b3 b4 h
      unfold F3j2
      by_cases hl : (i : Int) < (inputs.length : Int)
      · have hin : inB (i : Int) inputs.length = true := by simp [inB]; omega
        obtain ⟨b3', q1, q2⟩ := rs_inp h (inputs.getD (Int.toNat (i : Int)) (Ty.dflt (.int .i64)))
        rw [decide_eq_true hl, hin, q1]
        have e12 : F12 n e (inputs.getD (Int.toNat (i : Int)) (Ty.dflt (.int .i64))) = some (errInput e (inputs.getD (Int.toNat (i : Int)) (Ty.dflt (.int .i64)))) := rfl
        simp only [cond_true, e12]
        rw [rs_check q2, hiw]
        exact ih (i + 1) m _ _ _ _ _ _ (by omega) (by omega) q2
      · rw [decide_eq_false hl]
        simp only [cond_false]
        rw [rs_check h, hiw]
        exact ih (i + 1) m _ _ _ _ _ _ (by omega) (by omega) h
    show F3l1F n (F3l1 n m) words inputs other e (i : Int) b0 b1 b2 b3 b4 = _
    unfold F3l1F
    rw [hmx, decide_eq_true (show (i : Int) < ((max words.length inputs.length : Nat) : Int) by omega)]
    by_cases hl : (i : Int) < (words.length : Int)
    · have hin : inB (i : Int) words.length = true := by simp [inB]; omega
      have hlt : i < words.length := by omega
      have hwl : (words.getD (Int.toNat (i : Int)) (Ty.dflt .str)).length ≤ 60 := by
        refine hws _ ?_
        rw [Int.toNat_natCast]
        simp [List.getD, List.getElem?_eq_getElem hlt]
      obtain ⟨b4', q1, q2⟩ := rs_wrap h (by omega) (words.getD (Int.toNat (i : Int)) (Ty.dflt .str)) hwl
      rw [decide_eq_true hl, hin, q1]
      have e10 : F10 n e (words.getD (Int.toNat (i : Int)) (Ty.dflt .str)) = some (errWrap e (words.getD (Int.toNat (i : Int)) (Ty.dflt .str))) := rfl
      simp only [cond_true, e10]
      exact fin _ _ _ _ _ _ (q2.mono (by omega))
    · rw [decide_eq_false hl]
      simp only [cond_true, cond_false]
      exact fin _ _ _ _ _ _ (h.mono (by omega))

theorem words_loop (n : Nat) (code a : Int) (words : List (List UInt8)) (inputs : List Int) (other : Int) (hw : words.length ≤ 20)
    (hend : (∀ w ∈ words, w.length ≤ 60) → (match F8 n code a with | some r6 => (match F9 n code a with | some r7 => F3l1 n n words inputs other r6 0 r7.1 r7.2.1.1 r7.2.1.2.1 r7.2.1.2.2.1 r7.2.2.1 | none => none) | none => none) = some true) :
    ∀ (j i m : Nat), i + j = words.length → j < m → (∀ w ∈ words.take i, w.length ≤ 60) → F3l0 n m code a words inputs other (i : Int) = some true := by
  intro j
  induction j with
  | zero =>
    intro i m h1 h2 h3
    obtain ⟨m, rfl⟩ : ∃ q, m = q + 1 := ⟨m - 1, by omega⟩
    show F3l0F n (F3l0 n m) code a words inputs other (i : Int) = _
    unfold F3l0F
    rw [decide_eq_false (by omega)]
    rw [List.take_of_length_le (by omega)] at h3
    exact hend h3
  | succ j ih =>
    intro i m h1 h2 h3
    obtain ⟨m, rfl⟩ : ∃ q, m = q + 1 := ⟨m - 1, by omega⟩
    have hlt : i < words.length := by omega
    have hin : inB (i : Int) words.length = true := by simp [inB]; omega
    have hiw : IntKind.wrap .i64 ((i : Int) + 1) = ((i + 1 : Nat) : Int) := by rw [wrap64 (by omega) (by omega)]; omega
    have hg : words.getD (Int.toNat (i : Int)) (Ty.dflt .str) = words[i] := by rw [Int.toNat_natCast]; simp [List.getD, List.getElem?_eq_getElem hlt]
    show F3l0F n (F3l0 n m) code a words inputs other (i : Int) = _
    unfold F3l0F
    rw [decide_eq_true (show (i : Int) < (words.length : Int) by omega), hin, hg]
    simp only [cond_true]
    by_cases hl : (words[i].length : Int) > 60
    · rw [decide_eq_true hl, awake_ok]; rfl
    · rw [decide_eq_false hl, hiw]
      simp only [cond_false]
      refine ih (i + 1) m (by omega) (by omega) fun w hwm => ?_
      rw [List.take_succ_eq_append_getElem hlt] at hwm
      rcases List.mem_append.1 hwm with h | h
      · exact h3 w h
      · rw [List.mem_singleton] at h; subst h; omega

theorem faultPlays_pure (n : Nat) (hn : 100 < n) (code a : Int) (ha : I64 a) (words : List (List UInt8)) (inputs : List Int) (other : Int) : F3 n code a words inputs other = some true := by
  unfold F3
  by_cases h1 : (words.length : Int) > 20
  · rw [decide_eq_true h1, awake_ok]; rfl
  rw [decide_eq_false h1]
  by_cases h2 : (inputs.length : Int) > 20
  · rw [decide_eq_true h2, awake_ok]; rfl
  rw [decide_eq_false h2]
  by_cases h3 : code < 0
  · rw [decide_eq_true h3, awake_ok]; rfl
  rw [decide_eq_false h3]
  by_cases h4 : code > 19
  · rw [decide_eq_true h4, awake_ok]; rfl
  rw [decide_eq_false h4]
  simp only [cond_false]
  refine words_loop n code a words inputs other (by omega) (fun hws => ?_) words.length 0 n (by omega) (by omega) (by simp)
  have start : ∃ b0 b1 b2 b3 b4, F9 n code a = some (b0, ((b1, (b2, (b3, ()))), (b4, ()))) ∧ RS n 1000 (errNew code a) b0 b1 b2 b3 b4 := by
    by_cases hc : code = 0
    · subst hc
      exact ⟨false, 0, 0, 0, [], rfl, .inl ⟨rfl, rfl, rfl, rfl, rfl, rfl⟩⟩
    · have e0 : (code == 0) = false := by rw [beq_eq_false_iff_ne]; exact hc
      have l1 := nameOf_len code
      have l2 := printI_len a
      refine ⟨true, code, a, 0, (nameOf code ++ [32]) ++ printI a, ?_, .inr ?_⟩
      · unfold F9
        rw [e0, F18_ok, F20_print n (by omega) a ha.1 ha.2]
        simp only [cond_false]
        rw [decide_eq_true (show (nameOf code).length + ([32] : List UInt8).length ≤ 9223372036854775807 by simp; omega), decide_eq_true (show (nameOf code ++ ([32] : List UInt8)).length + (printI a).length ≤ 9223372036854775807 by simp; omega)]
        rfl
      · have e1 : errNew code a = .prob code a := by unfold errNew; rw [e0]; rfl
        rw [e1]
        exact ⟨rfl, rfl, rfl, rfl, F15_prob n (by omega) code a ha, by simp; omega⟩
  obtain ⟨b0, b1, b2, b3, b4, q1, q2⟩ := start
  rw [q1]
  have e8 : F8 n code a = some (errNew code a) := rfl
  rw [e8]
  exact plays_loop n words inputs other (by omega) (by omega) hws (max words.length inputs.length) 0 n _ _ _ _ _ _ (by omega) (by omega) q2

end Go.Proofs.YtllhidkadhoipaaDoor.Ab.Fp
