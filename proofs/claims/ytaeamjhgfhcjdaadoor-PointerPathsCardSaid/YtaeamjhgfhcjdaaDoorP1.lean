/- What Index and Print tell of numbers, in plain Lean. -/
import Derived.Test.YtaeamjhgfhcjdaaDoorGAB
namespace Go.Proofs.YtaeamjhgfhcjdaaDoor.Ab.Pt
open Go Go.RowKit Go.Proofs.YtaeamjhgfhcjdaaDoor.Ab
set_option maxRecDepth 100000
set_option linter.unusedVariables false
set_option linter.unusedSimpArgs false

theorem wrap64 {x : Int} (h1 : -9223372036854775808 ≤ x) (h2 : x ≤ 9223372036854775807) : IntKind.wrap .i64 x = x := by
  simp only [IntKind.wrap, IntKind.bits, IntKind.signed]
  simp
  omega

theorem wrap32 {x : Int} (h1 : -2147483648 ≤ x) (h2 : x ≤ 2147483647) : IntKind.wrap .i32 x = x := by
  simp only [IntKind.wrap, IntKind.bits, IntKind.signed]
  simp
  omega

theorem wrap8 {x : Int} (h1 : 0 ≤ x) (h2 : x ≤ 255) : IntKind.wrap .u8 x = x := by
  simp only [IntKind.wrap, IntKind.bits, IntKind.signed]
  simp
  omega

theorem awake12 : A12 = some true := by kernel_rfl

theorem wf64 {x : Int} (h : (Lit.int .i64 x).wf = true) : -9223372036854775808 ≤ x ∧ x ≤ 9223372036854775807 := by
  simpa [Lit.wf, IntKind.min, IntKind.max, IntKind.signed, IntKind.bits] using h

theorem inB_pre {α : Type} (pre : List α) (x : α) (l : List α) : inB (pre.length : Int) (pre ++ x :: l).length = true := by
  simp [inB]; omega

theorem getD_pre {α : Type} (pre : List α) (x d : α) (l : List α) : (pre ++ x :: l).getD (Int.toNat (pre.length : Int)) d = x := by
  simp

theorem byte_lt (x : UInt8) : x.toNat ≤ 255 := by have := x.toNat_lt; omega

/-! ### Index -/

def isD (x : UInt8) : Bool := decide (48 ≤ x.toNat) && decide (x.toNat ≤ 57)

def numI : Int → List UInt8 → Int
  | a, [] => a
  | a, x :: l => numI (10 * a + ((x.toNat : Int) - 48)) l

theorem isD_iff {x : UInt8} : isD x = true ↔ 48 ≤ x.toNat ∧ x.toNat ≤ 57 := by simp [isD]

def idxS (s : List UInt8) : Int × Bool :=
  if s = [] ∨ 9 < s.length ∨ (1 < s.length ∧ s.head? = some 48) then (0, false)
  else if s.all isD then (numI 0 s, true) else (0, false)

theorem pow_le {a b : Nat} (h : a ≤ b) : (10 : Nat) ^ a ≤ 10 ^ b := Nat.pow_le_pow_right (by omega) h

theorem F15_loop (n : Nat) : ∀ (l pre : List UInt8) (t4 : Int) (m : Nat), (pre ++ l).length ≤ 9 → 0 ≤ t4 → t4 < (10 ^ pre.length : Nat) → l.length + 1 ≤ m →
    F15l1 n m (pre ++ l) t4 ((pre ++ l).length : Int) (pre.length : Int) = some (if l.all isD then (numI t4 l, true) else (0, false))
  | [], pre, t4, m, _, _, _, hm => by
    obtain ⟨m, rfl⟩ : ∃ k, m = k + 1 := ⟨m - 1, by simp at hm; omega⟩
    simp [F15l1, F15l1F, numI]
  | x :: l, pre, t4, m, hl, h0, h1, hm => by
    obtain ⟨m, rfl⟩ : ∃ k, m = k + 1 := ⟨m - 1, by simp at hm; omega⟩
    have hb := byte_lt x
    have hlt : decide ((pre.length : Int) < ((pre ++ x :: l).length : Int)) = true := by simp; omega
    have hp9 : pre.length + 1 ≤ 9 := by simp at hl; omega
    have hpw := pow_le hp9
    have e9 : (10 : Nat) ^ 9 = 1000000000 := by decide
    rw [Nat.pow_succ] at hpw
    rw [F15l1, F15l1F, hlt, inB_pre, getD_pre]
    simp only [cond_true]
    by_cases ha : x.toNat < 48
    · have : isD x = false := by simp [isD]; omega
      have : decide ((x.toNat : Int) < 48) = true := by simp; omega
      simp [*]
    · by_cases hc : 57 < x.toNat
      · have : isD x = false := by simp [isD]; omega
        have h1 : decide ((x.toNat : Int) < 48) = false := by simp; omega
        have h2 : decide ((x.toNat : Int) > 57) = true := by simp; omega
        simp [*]
      · have hd : isD x = true := by simp [isD]; omega
        have h1' : decide ((x.toNat : Int) < 48) = false := by simp; omega
        have h2 : decide ((x.toNat : Int) > 57) = false := by simp; omega
        rw [h1', h2]
        simp only [cond_false]
        rw [wrap8 (by omega) (by omega), wrap64 (x := 10 * t4) (by omega) (by omega), wrap64 (x := (x.toNat : Int) - 48) (by omega) (by omega), wrap64 (by omega) (by omega), wrap64 (by omega) (by omega)]
        have := F15_loop n l (pre ++ [x]) (10 * t4 + ((x.toNat : Int) - 48)) m (by simpa using hl) (by omega) (by rw [List.length_append, List.length_singleton, Nat.pow_succ]; omega) (by simp at hm; omega)
        rw [List.append_assoc, List.singleton_append] at this
        rw [show ((pre.length : Int) + 1) = ((pre ++ [x]).length : Int) by simp, this]
        simp [hd, numI]

theorem F16_loop (n : Nat) : ∀ (l pre : List UInt8) (t4 : Int) (m : Nat), (pre ++ l).length ≤ 9 → 0 ≤ t4 → t4 < (10 ^ pre.length : Nat) → l.length + 1 ≤ m →
    F16l1 n m (pre ++ l) t4 (pre.length : Int) = some (if l.all isD then (numI t4 l, true) else (0, false))
  | [], pre, t4, m, _, _, _, hm => by
    obtain ⟨m, rfl⟩ : ∃ k, m = k + 1 := ⟨m - 1, by simp at hm; omega⟩
    simp [F16l1, F16l1F, numI]
  | x :: l, pre, t4, m, hl, h0, h1, hm => by
    obtain ⟨m, rfl⟩ : ∃ k, m = k + 1 := ⟨m - 1, by simp at hm; omega⟩
    have hb := byte_lt x
    have hlt : decide ((pre.length : Int) < ((pre ++ x :: l).length : Int)) = true := by simp; omega
    have hp9 : pre.length + 1 ≤ 9 := by simp at hl; omega
    have hpw := pow_le hp9
    have e9 : (10 : Nat) ^ 9 = 1000000000 := by decide
    rw [Nat.pow_succ] at hpw
    rw [F16l1, F16l1F, hlt, inB_pre, getD_pre]
    simp only [cond_true]
    by_cases ha : x.toNat < 48
    · have : isD x = false := by simp [isD]; omega
      have : decide ((x.toNat : Int) < 48) = true := by simp; omega
      simp [*]
    · by_cases hc : 57 < x.toNat
      · have : isD x = false := by simp [isD]; omega
        have h1 : decide ((x.toNat : Int) < 48) = false := by simp; omega
        have h2 : decide ((x.toNat : Int) > 57) = true := by simp; omega
        simp [*]
      · have hd : isD x = true := by simp [isD]; omega
        have h1' : decide ((x.toNat : Int) < 48) = false := by simp; omega
        have h2 : decide ((x.toNat : Int) > 57) = false := by simp; omega
        rw [h1', h2]
        simp only [cond_false]
        rw [wrap8 (by omega) (by omega), wrap64 (x := 10 * t4) (by omega) (by omega), wrap64 (x := (x.toNat : Int) - 48) (by omega) (by omega), wrap64 (by omega) (by omega), wrap64 (by omega) (by omega)]
        have := F16_loop n l (pre ++ [x]) (10 * t4 + ((x.toNat : Int) - 48)) m (by simpa using hl) (by omega) (by rw [List.length_append, List.length_singleton, Nat.pow_succ]; omega) (by simp at hm; omega)
        rw [List.append_assoc, List.singleton_append] at this
        rw [show ((pre.length : Int) + 1) = ((pre ++ [x]).length : Int) by simp, this]
        simp [hd, numI]

theorem head48 (s : List UInt8) (h : s ≠ []) : (((s.getD (Int.toNat 0) 0).toNat : Int) == 48) = decide (s.head? = some 48) := by
  cases s with
  | nil => exact absurd rfl h
  | cons x l =>
    simp only [Int.toNat_zero, List.getD_cons_zero, List.head?_cons, Option.some.injEq]
    by_cases e : x = 48
    · subst e; decide
    · rw [decide_eq_false e]
      have hn : x.toNat ≠ 48 := fun h => e (UInt8.toNat_inj.1 (h.trans (by decide)))
      simp; omega

theorem F15_eq (n : Nat) (hn : 10 ≤ n) (s : List UInt8) : F15 n s = some (idxS s) := by
  unfold F15 F15j0 idxS
  by_cases h0 : s = []
  · simp [h0]
  have e0 : (s == []) = false := by simpa using h0
  rw [e0, cond_false]
  by_cases h9 : 9 < s.length
  · have : decide ((s.length : Int) > 9) = true := by simp; omega
    simp [this, h9]
  have e9 : decide ((s.length : Int) > 9) = false := by simp; omega
  have eB : inB 0 s.length = true := by
    have : 0 < s.length := List.length_pos_iff.2 h0
    simp [inB]; omega
  have hl : F15l1 n n s 0 (s.length : Int) 0 = some (if s.all isD then (numI 0 s, true) else (0, false)) := F15_loop n s [] 0 n (by simp; omega) (by omega) (by simp) (by omega)
  rw [e9, eB, head48 s h0]
  simp only [cond_false, cond_true]
  by_cases h48 : s.head? = some 48
  · by_cases h1 : 1 < s.length
    · have : decide ((s.length : Int) > 1) = true := by simp; omega
      simp [h48, h1, this]
    · have : decide ((s.length : Int) > 1) = false := by simp; omega
      simp only [h48, decide_true, cond_true, this, cond_false]
      have hc : ¬ (s = [] ∨ 9 < s.length ∨ (1 < s.length ∧ s.head? = some 48)) := by simp [h0, h9, h1]
      simp only [h48] at hc
      rw [hl, if_neg hc]
  · simp only [h48, decide_false, cond_false]
    have hc : ¬ (s = [] ∨ 9 < s.length ∨ (1 < s.length ∧ s.head? = some 48)) := by simp [h0, h9, h48]
    simp only [h48] at hc
    rw [hl, if_neg hc]

theorem F16_eq (n : Nat) (hn : 10 ≤ n) (s : List UInt8) : F16 n s = some (idxS s) := by
  unfold F16 F16j0 idxS
  by_cases h0 : s = []
  · simp [h0]
  have e0 : ((s.length : Int) == 0) = false := by simpa using h0
  rw [e0, cond_false]
  by_cases h9 : 9 < s.length
  · have : decide ((s.length : Int) > 9) = true := by simp; omega
    simp [this, h9]
  have e9 : decide ((s.length : Int) > 9) = false := by simp; omega
  have eB : inB 0 s.length = true := by
    have : 0 < s.length := List.length_pos_iff.2 h0
    simp [inB]; omega
  have hl : F16l1 n n s 0 0 = some (if s.all isD then (numI 0 s, true) else (0, false)) := F16_loop n s [] 0 n (by simp; omega) (by omega) (by simp) (by omega)
  rw [e9, eB, head48 s h0]
  simp only [cond_false, cond_true]
  by_cases h48 : s.head? = some 48
  · by_cases h1 : 1 < s.length
    · have : decide ((s.length : Int) > 1) = true := by simp; omega
      simp [h48, h1, this]
    · have : decide ((s.length : Int) > 1) = false := by simp; omega
      simp only [h48, decide_true, cond_true, this, cond_false]
      have hc : ¬ (s = [] ∨ 9 < s.length ∨ (1 < s.length ∧ s.head? = some 48)) := by simp [h0, h9, h1]
      simp only [h48] at hc
      rw [hl, if_neg hc]
  · simp only [h48, decide_false, cond_false]
    by_cases h1 : 1 < s.length
    · have : decide ((s.length : Int) > 1) = true := by simp; omega
      simp only [this, cond_true]
      have hc : ¬ (s = [] ∨ 9 < s.length ∨ (1 < s.length ∧ s.head? = some 48)) := by simp [h0, h9, h48]
      simp only [h48] at hc
      rw [hl, if_neg hc]
    · have : decide ((s.length : Int) > 1) = false := by simp; omega
      simp only [this, cond_false]
      have hc : ¬ (s = [] ∨ 9 < s.length ∨ (1 < s.length ∧ s.head? = some 48)) := by simp [h0, h9, h48]
      simp only [h48] at hc
      rw [hl, if_neg hc]

end Go.Proofs.YtaeamjhgfhcjdaaDoor.Ab.Pt

/- Numbers as they are written, in plain Lean; the law PointerIndex. -/
namespace Go.Proofs.YtaeamjhgfhcjdaaDoor.Ab.Pt
open Go Go.RowKit Go.Proofs.YtaeamjhgfhcjdaaDoor.Ab
set_option maxRecDepth 100000
set_option linter.unusedVariables false
set_option linter.unusedSimpArgs false

def chr (k : Nat) : UInt8 := UInt8.ofNat (48 + k)

theorem chr_toNat {k : Nat} (h : k < 10) : (chr k).toNat = 48 + k := by
  simp [chr]; omega

/-- The digits of a number. -/
def dg (k : Nat) : List UInt8 := if h : k < 10 then [chr k] else dg (k / 10) ++ [chr (k % 10)]
termination_by k
decreasing_by omega

theorem dg_small {k : Nat} (h : k < 10) : dg k = [chr k] := by rw [dg, dif_pos h]
theorem dg_big {k : Nat} (h : ¬ k < 10) : dg k = dg (k / 10) ++ [chr (k % 10)] := by rw [dg, dif_neg h]

theorem dg_ne : ∀ (k : Nat), dg k ≠ []
  | k => by
    by_cases h : k < 10
    · rw [dg_small h]; simp
    · rw [dg_big h]; simp

theorem dg_ind {p : Nat → Prop} (h0 : ∀ k, k < 10 → p k) (h1 : ∀ k, ¬ k < 10 → p (k / 10) → p k) : ∀ k, p k := by
  intro k
  induction k using Nat.strongRecOn with
  | ind k ih =>
    by_cases h : k < 10
    · exact h0 k h
    · exact h1 k h (ih (k / 10) (by omega))

theorem chr_isD {k : Nat} (h : k < 10) : isD (chr k) = true := by rw [isD_iff, chr_toNat h]; omega

theorem dg_all : ∀ k, (dg k).all isD = true := dg_ind (fun k h => by rw [dg_small h]; simp [chr_isD h]) fun k h ih => by
  rw [dg_big h, List.all_append, ih]; simp [chr_isD (show k % 10 < 10 by omega)]

theorem dg_len : ∀ k n, k < 10 ^ (n + 1) ↔ (dg k).length ≤ n + 1 := dg_ind (fun k h n => by
    rw [dg_small h]
    have : 0 < 10 ^ n := Nat.pow_pos (by omega)
    rw [Nat.pow_succ]
    simp; omega) fun k h ih n => by
  rw [dg_big h]
  cases n with
  | zero =>
    have := List.length_pos_iff.2 (dg_ne (k / 10))
    simp only [Nat.zero_add, Nat.pow_one, List.length_append, List.length_singleton]
    omega
  | succ n =>
    have := ih n
    simp only [List.length_append, List.length_singleton]
    rw [Nat.pow_succ, ← Nat.div_lt_iff_lt_mul (by omega)]
    omega

theorem dg_head : ∀ k, 10 ≤ k → (dg k).head? ≠ some 48 := dg_ind (fun k h h' => by omega) fun k h ih _ => by
  rw [dg_big h]
  by_cases h2 : k / 10 < 10
  · rw [dg_small h2]
    simp only [List.singleton_append, List.head?_cons, ne_eq, Option.some.injEq]
    intro e
    have := congrArg UInt8.toNat e
    rw [chr_toNat h2] at this
    have e48 : (48 : UInt8).toNat = 48 := by decide
    omega
  · have := ih (by omega)
    rw [List.head?_append]
    cases hd : (dg (k / 10)).head? with
    | none => exact absurd (List.head?_eq_none_iff.1 hd) (dg_ne _)
    | some y => rw [hd] at this; simpa using this

theorem numI_append (x : UInt8) : ∀ (a : Int) (l : List UInt8), numI a (l ++ [x]) = 10 * numI a l + ((x.toNat : Int) - 48)
  | _, [] => rfl
  | _, y :: l => numI_append x _ l

theorem numI_dg : ∀ k, numI 0 (dg k) = (k : Int) := dg_ind (fun k h => by
    rw [dg_small h]
    show 10 * 0 + (((chr k).toNat : Int) - 48) = k
    rw [chr_toNat h]; omega) fun k h ih => by
  rw [dg_big h, numI_append, ih, chr_toNat (by omega)]
  omega

theorem numI_ge {l : List UInt8} : ∀ {a : Int}, 0 ≤ a → l.all isD = true → a ≤ numI a l := by
  induction l with
  | nil => intro a _ _; exact Int.le_refl _
  | cons x l ih =>
    intro a ha hl
    simp only [List.all_cons, Bool.and_eq_true] at hl
    have hx := isD_iff.1 hl.1
    have := ih (a := 10 * a + ((x.toNat : Int) - 48)) (by omega) hl.2
    show a ≤ numI (10 * a + ((x.toNat : Int) - 48)) l
    omega

theorem chr_of {x : UInt8} (h : isD x = true) : chr (x.toNat - 48) = x := by
  have hx := isD_iff.1 h
  apply UInt8.toNat_inj.1
  rw [chr_toNat (by omega)]; omega

theorem snocRec {p : List UInt8 → Prop} (h0 : p []) (h1 : ∀ l x, p l → p (l ++ [x])) : ∀ l, p l := by
  intro l
  have : ∀ m : List UInt8, p m.reverse := by
    intro m
    induction m with
    | nil => exact h0
    | cons x m ih => rw [List.reverse_cons]; exact h1 _ _ ih
  have h := this l.reverse
  rwa [List.reverse_reverse] at h

theorem dg_numI : ∀ s : List UInt8, s ≠ [] → s.all isD = true → (1 < s.length → s.head? ≠ some 48) → dg (numI 0 s).toNat = s := by
  refine snocRec (fun h => absurd rfl h) fun l x ih _ ha hh => ?_
  simp only [List.all_append, List.all_cons, List.all_nil, Bool.and_true, Bool.and_eq_true] at ha
  obtain ⟨ha, hx⟩ := ha
  have hxx := isD_iff.1 hx
  rw [numI_append]
  by_cases hl : l = []
  · subst hl
    show dg (10 * 0 + ((x.toNat : Int) - 48)).toNat = [x]
    have e : (10 * 0 + ((x.toNat : Int) - 48)).toNat = x.toNat - 48 := by omega
    rw [e, dg_small (by omega), chr_of hx]
  · obtain ⟨y, r, rfl⟩ : ∃ y r, l = y :: r := by cases l with | nil => exact absurd rfl hl | cons y r => exact ⟨y, r, rfl⟩
    have hy : y ≠ 48 := by
      have := hh (by simp)
      simpa using this
    simp only [List.all_cons, Bool.and_eq_true] at ha
    have hy2 := isD_iff.1 ha.1
    have hy3 : y.toNat ≠ 48 := fun e => hy (UInt8.toNat_inj.1 (e.trans (by decide)))
    have hge : 1 ≤ numI 0 (y :: r) := by
      have := numI_ge (a := 10 * 0 + ((y.toNat : Int) - 48)) (by omega) ha.2
      show 1 ≤ numI (10 * 0 + ((y.toNat : Int) - 48)) r
      omega
    have ih' := ih (by simp) (by simp [ha.1, ha.2]) (fun _ => by simpa using hy)
    generalize numI 0 (y :: r) = q at *
    have hk : ¬ (10 * q + ((x.toNat : Int) - 48)).toNat < 10 := by omega
    rw [dg_big hk, show (10 * q + ((x.toNat : Int) - 48)).toNat / 10 = q.toNat by omega, ih', show (10 * q + ((x.toNat : Int) - 48)).toNat % 10 = x.toNat - 48 by omega, chr_of hx]

/-- A number as it is written. -/
def pr (v : Int) : List UInt8 := if 0 ≤ v then dg v.toNat else 45 :: dg (-v).toNat

theorem digit_cut : ∀ k : Fin 10, ((([48, 49, 50, 51, 52, 53, 54, 55, 56, 57] : List UInt8).drop k.val).take ((k.val + 1) - k.val)) = [chr k.val] := by decide

theorem cut_digit {i : Int} (h0 : 0 ≤ i) (h1 : i < 10) : cutB i (IntKind.wrap .i64 (i + 1)) (([48, 49, 50, 51, 52, 53, 54, 55, 56, 57] : List UInt8)).length = true ∧
    (((([48, 49, 50, 51, 52, 53, 54, 55, 56, 57] : List UInt8)).drop (Int.toNat i)).take (Int.toNat (IntKind.wrap .i64 (i + 1)) - Int.toNat i)) = [chr i.toNat] := by
  rw [wrap64 (by omega) (by omega)]
  refine ⟨by simp [cutB]; omega, ?_⟩
  have := digit_cut ⟨i.toNat, by omega⟩
  rw [show (i + 1).toNat = i.toNat + 1 by omega]
  exact this

theorem F23_pos : ∀ (n k : Nat), k < 10 ^ (n + 1) → k ≤ 9223372036854775807 → F23 (n + 1) (k : Int) = some (dg k)
  | n, k, h, h9 => by
    unfold F23 F23B
    have e1 : decide ((k : Int) ≤ -10) = false := by simp; omega
    have e2 : decide ((k : Int) < 0) = false := by simp
    rw [e1, e2]
    simp only [cond_false]
    by_cases hk : k < 10
    · have e3 : decide ((k : Int) < 10) = true := by simp; omega
      obtain ⟨c1, c2⟩ := cut_digit (i := (k : Int)) (by omega) (by omega)
      rw [e3, c1, c2, dg_small hk]
      simp
    · have e3 : decide ((k : Int) < 10) = false := by simp; omega
      rw [e3]
      obtain ⟨n, rfl⟩ : ∃ m, n = m + 1 := ⟨n - 1, by
        cases n with
        | zero => simp at h; omega
        | succ n => rfl⟩
      have e4 : IntKind.wrap .i64 (Int.tdiv (k : Int) 10) = ((k / 10 : Nat) : Int) := by
        have : Int.tdiv (k : Int) 10 = ((k / 10 : Nat) : Int) := rfl
        rw [this, wrap64 (by omega) (by omega)]
      have e5 : Int.tmod (k : Int) 10 = ((k % 10 : Nat) : Int) := rfl
      have ih := F23_pos n (k / 10) (by rw [Nat.pow_succ] at h; omega) (by omega)
      obtain ⟨c1, c2⟩ := cut_digit (i := ((k % 10 : Nat) : Int)) (by omega) (by omega)
      rw [e4, ih, e5, c1, c2]
      have hlen := (dg_len (k / 10) 30).1 (by
        have e : (10 : Nat) ^ 31 = 10000000000000000000000000000000 := by decide
        rw [e]; omega)
      have : decide ((dg (k / 10)).length + [chr (Int.toNat ((k % 10 : Nat) : Int))].length ≤ 9223372036854775807) = true := by simp; omega
      dsimp only
      rw [this, dg_big hk]
      simp
      congr 1

theorem F23_neg : ∀ (n k : Nat), k < 10 ^ (n + 1) → 1 ≤ k → k ≤ 9223372036854775808 → F23 (n + 1) (-(k : Int)) = some (45 :: dg k)
  | n, k, h, h1, h9 => by
    unfold F23 F23B
    by_cases hk : k < 10
    · have e1 : decide (-(k : Int) ≤ -10) = false := by simp; omega
      have e2 : decide (-(k : Int) < 0) = true := by simp; omega
      have e0 : IntKind.wrap .i64 (0 - -(k : Int)) = (k : Int) := by rw [wrap64 (by omega) (by omega)]; omega
      obtain ⟨c1, c2⟩ := cut_digit (i := (k : Int)) (by omega) (by omega)
      rw [e1, e2, e0, c1, c2, dg_small hk]
      simp
    · have e1 : decide (-(k : Int) ≤ -10) = true := by simp; omega
      rw [e1]
      obtain ⟨n, rfl⟩ : ∃ m, n = m + 1 := ⟨n - 1, by
        cases n with
        | zero => simp at h; omega
        | succ n => rfl⟩
      have e4 : IntKind.wrap .i64 (Int.tdiv (-(k : Int)) 10) = -((k / 10 : Nat) : Int) := by
        have : Int.tdiv (-(k : Int)) 10 = -((k / 10 : Nat) : Int) := by rw [Int.neg_tdiv]; rfl
        rw [this, wrap64 (by omega) (by omega)]
      have e5 : IntKind.wrap .i64 (0 - Int.tmod (-(k : Int)) 10) = ((k % 10 : Nat) : Int) := by
        have : Int.tmod (-(k : Int)) 10 = -((k % 10 : Nat) : Int) := by rw [Int.neg_tmod]; rfl
        rw [this, wrap64 (by omega) (by omega)]; omega
      have ih := F23_neg n (k / 10) (by rw [Nat.pow_succ] at h; omega) (by omega) (by omega)
      obtain ⟨c1, c2⟩ := cut_digit (i := ((k % 10 : Nat) : Int)) (by omega) (by omega)
      rw [e4, ih, e5, c1, c2]
      have hlen := (dg_len (k / 10) 30).1 (by
        have e : (10 : Nat) ^ 31 = 10000000000000000000000000000000 := by decide
        rw [e]; omega)
      have : decide ((45 :: dg (k / 10)).length + [chr (Int.toNat ((k % 10 : Nat) : Int))].length ≤ 9223372036854775807) = true := by simp; omega
      dsimp only
      rw [this, dg_big hk]
      simp
      congr 1

theorem F23_eq (n : Nat) (hn : 31 ≤ n) (v : Int) (h1 : -9223372036854775808 ≤ v) (h2 : v ≤ 9223372036854775807) : F23 n v = some (pr v) := by
  obtain ⟨m, rfl⟩ : ∃ m, n = m + 1 := ⟨n - 1, by omega⟩
  have hp := pow_le (show 30 ≤ m + 1 by omega)
  have e : (10 : Nat) ^ 30 = 1000000000000000000000000000000 := by decide
  unfold pr
  by_cases h : 0 ≤ v
  · rw [if_pos h]
    have := F23_pos m v.toNat (by omega) (by omega)
    rwa [show ((v.toNat : Nat) : Int) = v by omega] at this
  · rw [if_neg h]
    have := F23_neg m (-v).toNat (by omega) (by omega) (by omega)
    rwa [show (-(((-v).toNat : Nat) : Int)) = v by omega] at this

/-! ### Index of what is written -/

theorem idx_pr (v : Int) : idxS (pr v) = if 0 ≤ v ∧ v ≤ 999999999 then (v, true) else (0, false) := by
  unfold pr idxS
  by_cases h : 0 ≤ v
  · rw [if_pos h]
    have hne := dg_ne v.toNat
    have hl := dg_len v.toNat 8
    rw [show (10 : Nat) ^ (8 + 1) = 1000000000 by decide] at hl
    by_cases h9 : v ≤ 999999999
    · rw [if_neg, if_pos (dg_all _), numI_dg, if_pos ⟨h, h9⟩]
      · simp; omega
      · rintro (e | e | ⟨e1, e2⟩)
        · exact hne e
        · have := hl.1 (by omega); omega
        · by_cases h10 : v.toNat < 10
          · rw [dg_small h10] at e1; simp at e1
          · exact dg_head _ (by omega) e2
    · have hc : ¬ (0 ≤ v ∧ v ≤ 999999999) := fun hh => h9 hh.2
      rw [if_neg hc, if_pos (.inr (.inl (by
        have : ¬ (dg v.toNat).length ≤ 8 + 1 := fun hh => by have := hl.2 hh; omega
        omega)))]
  · have hc : ¬ (0 ≤ v ∧ v ≤ 999999999) := fun hh => h hh.1
    rw [if_neg h, if_neg hc]
    split
    · rfl
    · rw [if_neg]
      simp [isD]

theorem idx_zero (v : Int) : (idxS (48 :: pr v)).2 = false := by
  have : pr v ≠ [] := by unfold pr; split; exact dg_ne _; simp
  have : 0 < (pr v).length := List.length_pos_iff.2 this
  unfold idxS
  rw [if_pos (.inr (.inr ⟨by simp; omega, rfl⟩))]

theorem idx_sign (v : Int) : (idxS (43 :: pr v)).2 = false := by
  unfold idxS
  split
  · rfl
  · rw [if_neg]
    simp [isD]

theorem idx_back (s : List UInt8) : ((idxS s).2 = false ∧ (idxS s).1 = 0) ∨ ((idxS s).2 = true ∧ 0 ≤ (idxS s).1 ∧ (idxS s).1 ≤ 999999999 ∧ pr (idxS s).1 = s) := by
  unfold idxS
  split
  · exact .inl ⟨rfl, rfl⟩
  · rename_i h
    split
    · rename_i hd
      have h0 := numI_ge (Int.le_refl 0) hd
      have hb : dg (numI 0 s).toNat = s := dg_numI s (fun e => h (.inl e)) hd (fun h1 h2 => h (.inr (.inr ⟨h1, h2⟩)))
      refine .inr ⟨rfl, h0, ?_, ?_⟩
      · have := (dg_len (numI 0 s).toNat 8).2 (by rw [hb]; omega)
        rw [show (10 : Nat) ^ (8 + 1) = 1000000000 by decide] at this
        show numI 0 s ≤ 999999999
        omega
      · show pr (numI 0 s) = s
        rw [pr, if_pos h0, hb]
    · exact .inl ⟨rfl, rfl⟩

theorem pr_len (v : Int) (h1 : -9223372036854775808 ≤ v) (h2 : v ≤ 9223372036854775807) : (pr v).length ≤ 40 := by
  unfold pr
  have e : (10 : Nat) ^ (30 + 1) = 10000000000000000000000000000000 := by decide
  split
  · have := (dg_len v.toNat 30).1 (by rw [e]; omega); omega
  · have := (dg_len (-v).toNat 30).1 (by rw [e]; omega); simp; omega

theorem index_pure (n : Nat) (hn : 1000 ≤ n) (v : Int) (s : List UInt8) (h1 : -9223372036854775808 ≤ v) (h2 : v ≤ 9223372036854775807) : F7 n v s = some true := by
  unfold F7
  by_cases hs : s.length > 200
  · have : decide ((s.length : Int) > 200) = true := by simp; omega
    rw [this, awake12]; rfl
  have e0 : decide ((s.length : Int) > 200) = false := by simp; omega
  have hpl := pr_len v h1 h2
  have l1 : decide (([48] : List UInt8).length + (pr v).length ≤ 9223372036854775807) = true := by simp; omega
  have l2 : decide (([43] : List UInt8).length + (pr v).length ≤ 9223372036854775807) = true := by simp; omega
  have hJ : F7j1 n s = some true := by
    unfold F7j1
    rw [F15_eq n (by omega), awake12]
    rcases idx_back s with ⟨e1, e2⟩ | ⟨e1, e2, e3, e4⟩
    · simp [e1, e2]
    · have hp := F23_eq n (by omega) (idxS s).1 (by omega) (by omega)
      simp only [hp, e1, e4]
      simp [e2]
  rw [e0, F23_eq n (by omega) v h1 h2]
  simp only [cond_false, F15_eq n (show 10 ≤ n by omega), l1, l2, cond_true, List.singleton_append]
  have hz := idx_zero v
  have hg := idx_sign v
  have hi := idx_pr v
  rw [hz, hg, hi]
  unfold F7j0
  rw [hJ]
  by_cases h0 : 0 ≤ v
  · by_cases h9 : v ≤ 999999999 <;> simp [h0, h9]
  · simp [h0]

theorem pointerIndex_pure (v : Int) (s : List UInt8) (h : (Lit.int .i64 v).wf = true) : F7 1000 v s = some true :=
  index_pure 1000 (Nat.le_refl _) v s (wf64 h).1 (wf64 h).2

end Go.Proofs.YtaeamjhgfhcjdaaDoor.Ab.Pt
