/- The names, and the numbers as they are written: the program's and the document's are alike. -/
import Derived.Test.YtllhidkadhoipaaDoorFB
namespace Go.Proofs.YtllhidkadhoipaaDoor.Ab.Fp
open Go Go.RowKit Go.Proofs Go.Proofs.YtllhidkadhoipaaDoor.Ab.Fh
set_option maxRecDepth 100000
set_option linter.unusedVariables false
set_option linter.unusedSimpArgs false

theorem awake_ok : A7 = some true := by kernel_rfl

theorem wrap64 {x : Int} (h1 : -9223372036854775808 ≤ x) (h2 : x ≤ 9223372036854775807) : IntKind.wrap .i64 x = x := by
  simp only [IntKind.wrap, IntKind.bits, IntKind.signed]
  simp
  omega
theorem wrapU {x : Int} (h1 : 0 ≤ x) (h2 : x < 18446744073709551616) : IntKind.wrap .u64 x = x := by
  simp only [IntKind.wrap, IntKind.bits, IntKind.signed]
  simp
  omega
theorem wrapUneg {x : Int} (h1 : -9223372036854775808 ≤ x) (h2 : x < 0) : IntKind.wrap .u64 (0 - IntKind.wrap .u64 x) = -x := by
  simp only [IntKind.wrap, IntKind.bits, IntKind.signed]
  simp
  omega
theorem wrap32 {x : Int} (h1 : 0 ≤ x) (h2 : x < 2147483648) : IntKind.wrap .i32 x = x := by
  simp only [IntKind.wrap, IntKind.bits, IntKind.signed]
  simp
  omega

def inN (a : Int) : Bool := decide (0 ≤ a) && decide (a ≤ 19)
def nameOf (a : Int) : List UInt8 := bif inN a then namesL.getD a.toNat [] else []

theorem F17_ok (n : Nat) (a : Int) : F17 n a = some (nameOf a) := by
  have h : ∀ s, F24 n s = (bif s == namesText then some namesL else none) := fun s => rfl
  unfold F17
  rw [h]
  have e : (([111, 107, 32, 97, 114, 103, 117, 109, 101, 110, 116, 32, 116, 101, 120, 116, 32, 101, 110, 100, 32, 117, 116, 102, 56, 32, 115, 117, 114, 114, 111, 103, 97, 116, 101, 32, 110, 111, 110, 99, 104, 97, 114, 97, 99, 116, 101, 114, 32, 102, 114, 97, 99, 116, 105, 111, 110, 32, 114, 97, 110, 103, 101, 32, 116, 119, 105, 99, 101, 32, 98, 121, 116, 101, 115, 32, 100, 101, 112, 116, 104, 32, 110, 111, 100, 101, 115, 32, 107, 101, 121, 32, 108, 111, 110, 103, 32, 112, 111, 105, 110, 116, 101, 114, 32, 110, 111, 110, 101, 32, 115, 116, 97, 116, 101, 32, 98, 105, 103, 32, 108, 105, 110, 101] : List UInt8) == namesText) = true := beq_self_eq_true _
  rw [e]
  have hl : (namesL.length : Int) = 20 := rfl
  simp only [cond_true, hl]
  unfold nameOf inN
  by_cases h0 : a < 0
  · rw [decide_eq_true h0, decide_eq_false (show ¬ 0 ≤ a by omega)]; rfl
  rw [decide_eq_false h0, decide_eq_true (show 0 ≤ a by omega)]
  by_cases h1 : a ≥ 20
  · rw [decide_eq_true h1, decide_eq_false (show ¬ a ≤ 19 by omega)]; rfl
  rw [decide_eq_false h1, decide_eq_true (show a ≤ 19 by omega)]
  have hi : inB a namesL.length = true := by
    show (decide (0 ≤ a) && decide (a < ((20 : Nat) : Int))) = true
    simp; omega
  rw [hi]
  rfl

theorem F18_ok (n : Nat) (a : Int) : F18 n a = some (nameOf a) := by
  unfold F18 nameOf inN
  by_cases h0 : a < 0
  · rw [decide_eq_true h0, decide_eq_false (show ¬ 0 ≤ a by omega)]; rfl
  rw [decide_eq_false h0, decide_eq_true (show 0 ≤ a by omega)]
  by_cases h1 : a > 19
  · rw [decide_eq_true h1, decide_eq_false (show ¬ a ≤ 19 by omega)]; rfl
  rw [decide_eq_false h1, decide_eq_true (show a ≤ 19 by omega)]
  have hi : inB a 20 = true := by
    show (decide (0 ≤ a) && decide (a < ((20 : Nat) : Int))) = true
    simp; omega
  rw [hi]
  rfl

theorem nameOf_len (a : Int) : (nameOf a).length ≤ 12 := by
  unfold nameOf
  cases h : inN a
  · simp
  · have : ∀ i, i < 20 → (namesL.getD i []).length ≤ 12 := by decide
    simp only [cond_true]
    refine this _ ?_
    simp only [inN, Bool.and_eq_true, decide_eq_true_eq] at h
    omega

theorem nameOf_nil (a : Int) : (nameOf a == ([] : List UInt8)) = !inN a := by
  unfold nameOf
  cases h : inN a
  · rfl
  · have : ∀ i, i < 20 → (namesL.getD i [] == ([] : List UInt8)) = false := by decide
    simp only [cond_true, Bool.not_true]
    refine this _ ?_
    simp only [inN, Bool.and_eq_true, decide_eq_true_eq] at h
    omega

theorem nameOf_inj {a b : Int} (ha : inN a = true) (hb : inN b = true) : (nameOf a == nameOf b) = (a == b) := by
  have key : ∀ i, i < 20 → ∀ j, j < 20 → (namesL.getD i [] == namesL.getD j []) = (i == j) := by decide
  simp only [nameOf, ha, hb, cond_true]
  simp only [inN, Bool.and_eq_true, decide_eq_true_eq] at ha hb
  rw [key _ (by omega) _ (by omega)]
  by_cases h : a = b
  · subst h; simp
  · rw [show (a == b) = false by simp [h], beq_eq_false_iff_ne]; omega

/-! ### Numbers -/

/-- Digits, the greatest first. -/
def digs : Nat → Nat → List UInt8
  | 0, _ => []
  | k + 1, u => if u < 10 then [UInt8.ofNat (48 + u)] else digs k (u / 10) ++ [UInt8.ofNat (48 + u % 10)]

theorem digs_len : ∀ k u, (digs k u).length ≤ k
  | 0, _ => by simp [digs]
  | k + 1, u => by
    simp only [digs]
    split
    · simp
    · have := digs_len k (u / 10); simp; omega

theorem runeStr_digit (d : Nat) (hd : d < 10) : runeStr ((48 + d : Nat) : Int) = [UInt8.ofNat (48 + d)] := by
  have : ∀ d, d < 10 → runeStr ((48 + d : Nat) : Int) = [UInt8.ofNat (48 + d)] := by decide +kernel
  exact this d hd

def printI (a : Int) : List UInt8 := if a < 0 then 45 :: digs 25 a.natAbs else digs 25 a.natAbs

theorem F58_loop (t0 : Int) (n : Nat) : ∀ (k m u : Nat) (s : List UInt8), u < 10 ^ k → k < m → 1 ≤ k → u < 18446744073709551616 → s.length + k ≤ 1000 → (u = 0 → s = []) →
    ∃ x, (x = digs k u) ∧ F58l1 n m t0 (u : Int) s = some (if t0 < 0 then 45 :: (x ++ s) else x ++ s) := by
  intro k
  induction k with
  | zero => intro m u s _ _ h; omega
  | succ k ih =>
    intro m u s hu hm _ hb hs h0
    obtain ⟨m, rfl⟩ : ∃ q, m = q + 1 := ⟨m - 1, by omega⟩
    refine ⟨_, rfl, ?_⟩
    have hmod : Int.tmod (u : Int) 10 = ((u % 10 : Nat) : Int) := by rw [Int.tmod_eq_emod_of_nonneg (by omega)]; omega
    have hdiv : Int.tdiv (u : Int) 10 = ((u / 10 : Nat) : Int) := by rw [Int.tdiv_eq_ediv_of_nonneg (by omega)]; omega
    have hr : runeStr (IntKind.wrap .i32 (IntKind.wrap .u64 (48 + Int.tmod (u : Int) 10))) = [UInt8.ofNat (48 + u % 10)] := by
      rw [hmod, wrapU (by omega) (by omega), wrap32 (by omega) (by omega)]
      have := runeStr_digit (u % 10) (by omega)
      rw [← this]; congr 1
    have hw : IntKind.wrap .u64 (Int.tdiv (u : Int) 10) = ((u / 10 : Nat) : Int) := by rw [hdiv, wrapU (by omega) (by omega)]
    have step : F58l1 n (m + 1) t0 (u : Int) s = F58l1 n m t0 ((u / 10 : Nat) : Int) (UInt8.ofNat (48 + u % 10) :: s) := by
      have hlen : decide (([UInt8.ofNat (48 + u % 10)] : List UInt8).length + s.length ≤ 9223372036854775807) = true := decide_eq_true (by simp; omega)
      show F58l1F n (F58l1 n m) t0 (u : Int) s = _
      unfold F58l1F
      rw [hr, hw, hlen]
      by_cases hp : (u : Int) > 0
      · rw [decide_eq_true hp]; rfl
      · rw [decide_eq_false hp, h0 (by omega)]; rfl
    rw [step]
    by_cases h10 : u < 10
    · -- the last digit
      have e1 : u / 10 = 0 := by omega
      have e2 : u % 10 = u := by omega
      rw [e1, e2]
      obtain ⟨m, rfl⟩ : ∃ q, m = q + 1 := ⟨m - 1, by omega⟩
      show F58l1F n (F58l1 n m) t0 ((0 : Nat) : Int) (UInt8.ofNat (48 + u) :: s) = _
      unfold F58l1F
      rw [decide_eq_false (by omega), show ((UInt8.ofNat (48 + u) :: s) == ([] : List UInt8)) = false from rfl]
      simp only [cond_false, digs, if_pos h10]
      have hl : decide (([45] : List UInt8).length + (UInt8.ofNat (48 + u) :: s).length ≤ 9223372036854775807) = true := decide_eq_true (by simp; omega)
      by_cases ht : t0 < 0
      · rw [decide_eq_true ht, hl, if_pos ht]; rfl
      · rw [decide_eq_false ht, if_neg ht]; rfl
    · have hk : 1 ≤ k := by
        rcases Nat.eq_zero_or_pos k with h | h
        · subst h; simp at hu; omega
        · exact h
      obtain ⟨x, hx, hf⟩ := ih m (u / 10) (UInt8.ofNat (48 + u % 10) :: s) (by rw [Nat.pow_succ] at hu; omega) (by omega) hk (by omega) (by simp; omega) (by omega)
      rw [hf, hx]
      simp only [digs, if_neg h10]
      by_cases ht : t0 < 0
      · rw [if_pos ht, if_pos ht]; simp
      · rw [if_neg ht, if_neg ht]; simp

theorem F58_ok (n : Nat) (hn : 30 < n) (a : Int) (h1 : -9223372036854775808 ≤ a) (h2 : a ≤ 9223372036854775807) : F58 n a = some (printI a) := by
  have hp : (10 : Nat) ^ 25 = 10000000000000000000000000 := by decide
  unfold F58
  by_cases h0 : a < 0
  · rw [decide_eq_true h0, wrapUneg h1 h0]
    have e : (-a : Int) = ((a.natAbs : Nat) : Int) := by omega
    obtain ⟨x, rfl, hf⟩ := F58_loop a n 25 n a.natAbs [] (by omega) (by omega) (by omega) (by omega) (by simp) (by omega)
    simp only [cond_true, F58j0]
    rw [e, hf, if_pos h0]
    simp [printI, h0]
  · rw [decide_eq_false h0]
    have e : IntKind.wrap .u64 a = ((a.natAbs : Nat) : Int) := by rw [wrapU (by omega) (by omega)]; omega
    obtain ⟨x, rfl, hf⟩ := F58_loop a n 25 n a.natAbs [] (by omega) (by omega) (by omega) (by omega) (by simp) (by simp)
    simp only [cond_false, F58j0]
    rw [e, hf, if_neg h0]
    simp [printI, h0]

end Go.Proofs.YtllhidkadhoipaaDoor.Ab.Fp
