/- What Index and Print tell of numbers, in plain Lean. -/
import Derived.Test.YtaeamjhgfhcjdaaDoorGAB
namespace Go.Proofs.YtaeamjhgfhcjdaaDoor.Ab.Pt
open Go Go.RowKit Go.Proofs.YtaeamjhgfhcjdaaDoor.Ab
set_option maxRecDepth 100000
set_option linter.unusedVariables false
set_option linter.unusedSimpArgs false

theorem wrap64 {x : Int} (h1 : -9223372036854775808 ≤ x) (h2 : x ≤ 9223372036854775807) : IntKind.wrap .i64 x = x := by
  simp only [IntKind.wrap, IntKind.bits, IntKind.signed]
  simp
  omega

theorem wrap32 {x : Int} (h1 : -2147483648 ≤ x) (h2 : x ≤ 2147483647) : IntKind.wrap .i32 x = x := by
  simp only [IntKind.wrap, IntKind.bits, IntKind.signed]
  simp
  omega

theorem wrap8 {x : Int} (h1 : 0 ≤ x) (h2 : x ≤ 255) : IntKind.wrap .u8 x = x := by
  simp only [IntKind.wrap, IntKind.bits, IntKind.signed]
  simp
  omega

theorem awake12 : A12 = some true := by kernel_rfl

theorem wf64 {x : Int} (h : (Lit.int .i64 x).wf = true) : -9223372036854775808 ≤ x ∧ x ≤ 9223372036854775807 := by
  simpa [Lit.wf, IntKind.min, IntKind.max, IntKind.signed, IntKind.bits] using h

theorem inB_pre {α : Type} (pre : List α) (x : α) (l : List α) : inB (pre.length : Int) (pre ++ x :: l).length = true := by
  simp [inB]; omega

theorem getD_pre {α : Type} (pre : List α) (x d : α) (l : List α) : (pre ++ x :: l).getD (Int.toNat (pre.length : Int)) d = x := by
  simp

theorem byte_lt (x : UInt8) : x.toNat ≤ 255 := by have := x.toNat_lt; omega

/-! ### Index -/

def isD (x : UInt8) : Bool := decide (48 ≤ x.toNat) && decide (x.toNat ≤ 57)

def numI : Int → List UInt8 → Int
  | a, [] => a
  | a, x :: l => numI (10 * a + ((x.toNat : Int) - 48)) l

theorem isD_iff {x : UInt8} : isD x = true ↔ 48 ≤ x.toNat ∧ x.toNat ≤ 57 := by simp [isD]

def idxS (s : List UInt8) : Int × Bool :=
  if s = [] ∨ 9 < s.length ∨ (1 < s.length ∧ s.head? = some 48) then (0, false)
  else if s.all isD then (numI 0 s, true) else (0, false)

theorem pow_le {a b : Nat} (h : a ≤ b) : (10 : Nat) ^ a ≤ 10 ^ b := Nat.pow_le_pow_right (by omega) h

theorem F15_loop (n : Nat) : ∀ (l pre : List UInt8) (t4 : Int) (m : Nat), (pre ++ l).length ≤ 9 → 0 ≤ t4 → t4 < (10 ^ pre.length : Nat) → l.length + 1 ≤ m →
    F15l1 n m (pre ++ l) t4 ((pre ++ l).length : Int) (pre.length : Int) = some (if l.all isD then (numI t4 l, true) else (0, false))
  | [], pre, t4, m, _, _, _, hm => by
    obtain ⟨m, rfl⟩ : ∃ k, m = k + 1 := ⟨m - 1, by simp at hm; omega⟩
    simp [F15l1, F15l1F, numI]
  | x :: l, pre, t4, m, hl, h0, h1, hm => by
    obtain ⟨m, rfl⟩ : ∃ k, m = k + 1 := ⟨m - 1, by simp at hm; omega⟩
    have hb := byte_lt x
    have hlt : decide ((pre.length : Int) < ((pre ++ x :: l).length : Int)) = true := by simp; omega
    have hp9 : pre.length + 1 ≤ 9 := by simp at hl; omega
    have hpw := pow_le hp9
    have e9 : (10 : Nat) ^ 9 = 1000000000 := by decide
    rw [Nat.pow_succ] at hpw
    rw [F15l1, F15l1F, hlt, inB_pre, getD_pre]
    simp only [cond_true]
    by_cases ha : x.toNat < 48
    · have : isD x = false := by simp [isD]; omega
      have : decide ((x.toNat : Int) < 48) = true := by simp; omega
      simp [*]
    · by_cases hc : 57 < x.toNat
      · have : isD x = false := by simp [isD]; omega
        have h1 : decide ((x.toNat : Int) < 48) = false := by simp; omega
        have h2 : decide ((x.toNat : Int) > 57) = true := by simp; omega
        simp [*]
      · have hd : isD x = true := by simp [isD]; omega
        have h1' : decide ((x.toNat : Int) < 48) = false := by simp; omega
        have h2 : decide ((x.toNat : Int) > 57) = false := by simp; omega
        rw [h1', h2]
        simp only [cond_false]
        rw [wrap8 (by omega) (by omega), wrap64 (x := 10 * t4) (by omega) (by omega), wrap64 (x := (x.toNat : Int) - 48) (by omega) (by omega), wrap64 (by omega) (by omega), wrap64 (by omega) (by omega)]
        have := F15_loop n l (pre ++ [x]) (10 * t4 + ((x.toNat : Int) - 48)) m (by simpa using hl) (by omega) (by rw [List.length_append, List.length_singleton, Nat.pow_succ]; omega) (by simp at hm; omega)
        rw [List.append_assoc, List.singleton_append] at this
        rw [show ((pre.length : Int) + 1) = ((pre ++ [x]).length : Int) by simp, this]
        simp [hd, numI]

theorem F16_loop (n : Nat) : ∀ (l pre : List UInt8) (t4 : Int) (m : Nat), (pre ++ l).length ≤ 9 → 0 ≤ t4 → t4 < (10 ^ pre.length : Nat) → l.length + 1 ≤ m →
    F16l1 n m (pre ++ l) t4 (pre.length : Int) = some (if l.all isD then (numI t4 l, true) else (0, false))
  | [], pre, t4, m, _, _, _, hm => by
    obtain ⟨m, rfl⟩ : ∃ k, m = k + 1 := ⟨m - 1, by simp at hm; omega⟩
    simp [F16l1, F16l1F, numI]
  | x :: l, pre, t4, m, hl, h0, h1, hm => by
    obtain ⟨m, rfl⟩ : ∃ k, m = k + 1 := ⟨m - 1, by simp at hm; omega⟩
    have hb := byte_lt x
    have hlt : decide ((pre.length : Int) < ((pre ++ x :: l).length : Int)) = true := by simp; omega
    have hp9 : pre.length + 1 ≤ 9 := by simp at hl; omega
    have hpw := pow_le hp9
    have e9 : (10 : Nat) ^ 9 = 1000000000 := by decide
    rw [Nat.pow_succ] at hpw
    rw [F16l1, F16l1F, hlt, inB_pre, getD_pre]
    simp only [cond_true]
    by_cases ha : x.toNat < 48
    · have : isD x = false := by simp [isD]; omega
      have : decide ((x.toNat : Int) < 48) = true := by simp; omega
      simp [*]
    · by_cases hc : 57 < x.toNat
      · have : isD x = false := by simp [isD]; omega
        have h1 : decide ((x.toNat : Int) < 48) = false := by simp; omega
        have h2 : decide ((x.toNat : Int) > 57) = true := by simp; omega
        simp [*]
      · have hd : isD x = true := by simp [isD]; omega
        have h1' : decide ((x.toNat : Int) < 48) = false := by simp; omega
        have h2 : decide ((x.toNat : Int) > 57) = false := by simp; omega
        rw [h1', h2]
        simp only [cond_false]
        rw [wrap8 (by omega) (by omega), wrap64 (x := 10 * t4) (by omega) (by omega), wrap64 (x := (x.toNat : Int) - 48) (by omega) (by omega), wrap64 (by omega) (by omega), wrap64 (by omega) (by omega)]
        have := F16_loop n l (pre ++ [x]) (10 * t4 + ((x.toNat : Int) - 48)) m (by simpa using hl) (by omega) (by rw [List.length_append, List.length_singleton, Nat.pow_succ]; omega) (by simp at hm; omega)
        rw [List.append_assoc, List.singleton_append] at this
        rw [show ((pre.length : Int) + 1) = ((pre ++ [x]).length : Int) by simp, this]
        simp [hd, numI]

theorem head48 (s : List UInt8) (h : s ≠ []) : (((s.getD (Int.toNat 0) 0).toNat : Int) == 48) = decide (s.head? = some 48) := by
  cases s with
  | nil => exact absurd rfl h
  | cons x l =>
    simp only [Int.toNat_zero, List.getD_cons_zero, List.head?_cons, Option.some.injEq]
    by_cases e : x = 48
    · subst e; decide
    · rw [decide_eq_false e]
      have hn : x.toNat ≠ 48 := fun h => e (UInt8.toNat_inj.1 (h.trans (by decide)))
      simp; omega

theorem F15_eq (n : Nat) (hn : 10 ≤ n) (s : List UInt8) : F15 n s = some (idxS s) := by
  unfold F15 F15j0 idxS
  by_cases h0 : s = []
  · simp [h0]
  have e0 : (s == []) = false := by simpa using h0
  rw [e0, cond_false]
  by_cases h9 : 9 < s.length
  · have : decide ((s.length : Int) > 9) = true := by simp; omega
    simp [this, h9]
  have e9 : decide ((s.length : Int) > 9) = false := by simp; omega
  have eB : inB 0 s.length = true := by
    have : 0 < s.length := List.length_pos_iff.2 h0
    simp [inB]; omega
  have hl : F15l1 n n s 0 (s.length : Int) 0 = some (if s.all isD then (numI 0 s, true) else (0, false)) := F15_loop n s [] 0 n (by simp; omega) (by omega) (by simp) (by omega)
  rw [e9, eB, head48 s h0]
  simp only [cond_false, cond_true]
  by_cases h48 : s.head? = some 48
  · by_cases h1 : 1 < s.length
    · have : decide ((s.length : Int) > 1) = true := by simp; omega
      simp [h48, h1, this]
    · have : decide ((s.length : Int) > 1) = false := by simp; omega
      simp only [h48, decide_true, cond_true, this, cond_false]
      have hc : ¬ (s = [] ∨ 9 < s.length ∨ (1 < s.length ∧ s.head? = some 48)) := by simp [h0, h9, h1]
      simp only [h48] at hc
      rw [hl, if_neg hc]
  · simp only [h48, decide_false, cond_false]
    have hc : ¬ (s = [] ∨ 9 < s.length ∨ (1 < s.length ∧ s.head? = some 48)) := by simp [h0, h9, h48]
    simp only [h48] at hc
    rw [hl, if_neg hc]

theorem F16_eq (n : Nat) (hn : 10 ≤ n) (s : List UInt8) : F16 n s = some (idxS s) := by
  unfold F16 F16j0 idxS
  by_cases h0 : s = []
  · simp [h0]
  have e0 : ((s.length : Int) == 0) = false := by simpa using h0
  rw [e0, cond_false]
  by_cases h9 : 9 < s.length
  · have : decide ((s.length : Int) > 9) = true := by simp; omega
    simp [this, h9]
  have e9 : decide ((s.length : Int) > 9) = false := by simp; omega
  have eB : inB 0 s.length = true := by
    have : 0 < s.length := List.length_pos_iff.2 h0
    simp [inB]; omega
  have hl : F16l1 n n s 0 0 = some (if s.all isD then (numI 0 s, true) else (0, false)) := F16_loop n s [] 0 n (by simp; omega) (by omega) (by simp) (by omega)
  rw [e9, eB, head48 s h0]
  simp only [cond_false, cond_true]
  by_cases h48 : s.head? = some 48
  · by_cases h1 : 1 < s.length
    · have : decide ((s.length : Int) > 1) = true := by simp; omega
      simp [h48, h1, this]
    · have : decide ((s.length : Int) > 1) = false := by simp; omega
      simp only [h48, decide_true, cond_true, this, cond_false]
      have hc : ¬ (s = [] ∨ 9 < s.length ∨ (1 < s.length ∧ s.head? = some 48)) := by simp [h0, h9, h1]
      simp only [h48] at hc
      rw [hl, if_neg hc]
  · simp only [h48, decide_false, cond_false]
    by_cases h1 : 1 < s.length
    · have : decide ((s.length : Int) > 1) = true := by simp; omega
      simp only [this, cond_true]
      have hc : ¬ (s = [] ∨ 9 < s.length ∨ (1 < s.length ∧ s.head? = some 48)) := by simp [h0, h9, h48]
      simp only [h48] at hc
      rw [hl, if_neg hc]
    · have : decide ((s.length : Int) > 1) = false := by simp; omega
      simp only [this, cond_false]
      have hc : ¬ (s = [] ∨ 9 < s.length ∨ (1 < s.length ∧ s.head? = some 48)) := by simp [h0, h9, h48]
      simp only [h48] at hc
      rw [hl, if_neg hc]

end Go.Proofs.YtaeamjhgfhcjdaaDoor.Ab.Pt
