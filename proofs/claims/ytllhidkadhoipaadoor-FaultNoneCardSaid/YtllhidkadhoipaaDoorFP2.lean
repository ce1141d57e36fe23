/- The document's numbers; errors and what the document tells of them, side by side; the four laws. -/
import Derived.Test.YtllhidkadhoipaaDoorFP1
namespace Go.Proofs.YtllhidkadhoipaaDoor.Ab.Fp
open Go Go.RowKit Go.Proofs Go.Proofs.YtllhidkadhoipaaDoor.Ab.Fh
set_option maxRecDepth 100000
set_option linter.unusedVariables false
set_option linter.unusedSimpArgs false

abbrev tenL : List UInt8 := [48, 49, 50, 51, 52, 53, 54, 55, 56, 57]

theorem ten_at {x : Int} {d : Nat} (hx : x = (d : Int)) (hd : d < 10) : cutB x (IntKind.wrap .i64 (x + 1)) tenL.length = true ∧ (tenL.drop (Int.toNat x)).take (Int.toNat (IntKind.wrap .i64 (x + 1)) - Int.toNat x) = [UInt8.ofNat (48 + d)] := by
  have : ∀ d : Nat, d < 10 → cutB (d : Int) (IntKind.wrap .i64 ((d : Int) + 1)) tenL.length = true ∧ (tenL.drop (Int.toNat (d : Int))).take (Int.toNat (IntKind.wrap .i64 ((d : Int) + 1)) - Int.toNat (d : Int)) = [UInt8.ofNat (48 + d)] := by decide +kernel
  subst hx
  exact this d hd

def pr (k : Nat) (a : Int) : List UInt8 := if a < 0 then 45 :: digs k a.natAbs else digs k a.natAbs

theorem pr_len (k : Nat) (a : Int) : (pr k a).length ≤ k + 1 := by
  have := digs_len k a.natAbs
  unfold pr
  split
  · simp; omega
  · omega

theorem F20_ok : ∀ (k n : Nat) (a : Int), k < n → k ≤ 100 → a.natAbs < 10 ^ (k + 1) → -9223372036854775808 ≤ a → a ≤ 9223372036854775807 → F20 n a = some (pr (k + 1) a)
  | k, n, a, hn, hk, ha, h1, h2 => by
    obtain ⟨n, rfl⟩ : ∃ q, n = q + 1 := ⟨n - 1, by omega⟩
    show F20B (F20 n) n a = _
    unfold F20B
    by_cases c1 : a ≤ -10
    · -- far below
      obtain ⟨k, rfl⟩ : ∃ q, k = q + 1 := by
        rcases Nat.eq_zero_or_pos k with h | h
        · subst h; simp at ha; omega
        · exact ⟨k - 1, by omega⟩
      have hdiv : Int.tdiv a 10 = -((a.natAbs / 10 : Nat) : Int) := by
        have e : a = -((a.natAbs : Nat) : Int) := by omega
        rw [e, Int.neg_tdiv, Int.tdiv_eq_ediv_of_nonneg (by omega)]
        omega
      have hmod : Int.tmod a 10 = -((a.natAbs % 10 : Nat) : Int) := by
        have e : a = -((a.natAbs : Nat) : Int) := by omega
        rw [e, Int.neg_tmod, Int.tmod_eq_emod_of_nonneg (by omega)]
        omega
      have ih := F20_ok k n (IntKind.wrap .i64 (Int.tdiv a 10)) (by omega) (by omega) (by rw [wrap64 (by omega) (by omega), Nat.pow_succ] at *; omega) (by rw [wrap64 (by omega) (by omega)]; omega) (by rw [wrap64 (by omega) (by omega)]; omega)
      have hd : IntKind.wrap .i64 (0 - Int.tmod a 10) = ((a.natAbs % 10 : Nat) : Int) := by rw [hmod, wrap64 (by omega) (by omega)]; omega
      obtain ⟨t1, t2⟩ := ten_at hd (by omega)
      rw [ih, decide_eq_true c1, t1, t2]
      have hl := pr_len (k + 1) (IntKind.wrap .i64 (Int.tdiv a 10))
      have hb : decide ((pr (k + 1) (IntKind.wrap .i64 (Int.tdiv a 10))).length + ([UInt8.ofNat (48 + a.natAbs % 10)] : List UInt8).length ≤ 9223372036854775807) = true := decide_eq_true (by simp; omega)
      dsimp only
      rw [hb]
      have e2 : pr (k + 1 + 1) a = pr (k + 1) (IntKind.wrap .i64 (Int.tdiv a 10)) ++ [UInt8.ofNat (48 + a.natAbs % 10)] := by
        rw [wrap64 (by omega) (by omega), hdiv]
        unfold pr
        rw [if_pos (by omega), if_pos (by omega)]
        have e3 : (-((a.natAbs / 10 : Nat) : Int)).natAbs = a.natAbs / 10 := by omega
        rw [e3, digs, if_neg (by omega)]
        rfl
      rw [e2]
      rfl
    rw [decide_eq_false c1]
    by_cases c2 : a < 0
    · have hd : IntKind.wrap .i64 (0 - a) = ((a.natAbs : Nat) : Int) := by rw [wrap64 (by omega) (by omega)]; omega
      obtain ⟨t1, t2⟩ := ten_at hd (by omega)
      rw [decide_eq_true c2, t1, t2]
      have e2 : pr (k + 1) a = [45] ++ [UInt8.ofNat (48 + a.natAbs)] := by
        unfold pr
        rw [if_pos c2, digs, if_pos (by omega)]
        rfl
      rw [e2]
      rfl
    rw [decide_eq_false c2]
    by_cases c3 : a < 10
    · have hd : a = ((a.natAbs : Nat) : Int) := by omega
      obtain ⟨t1, t2⟩ := ten_at hd (by omega)
      rw [decide_eq_true c3, t1, t2]
      have e2 : pr (k + 1) a = [UInt8.ofNat (48 + a.natAbs)] := by
        unfold pr
        rw [if_neg c2, digs, if_pos (by omega)]
      rw [e2]
      rfl
    rw [decide_eq_false c3]
    obtain ⟨k, rfl⟩ : ∃ q, k = q + 1 := by
      rcases Nat.eq_zero_or_pos k with h | h
      · subst h; simp at ha; omega
      · exact ⟨k - 1, by omega⟩
    have hdiv : Int.tdiv a 10 = ((a.natAbs / 10 : Nat) : Int) := by rw [Int.tdiv_eq_ediv_of_nonneg (by omega)]; omega
    have hmod : Int.tmod a 10 = ((a.natAbs % 10 : Nat) : Int) := by rw [Int.tmod_eq_emod_of_nonneg (by omega)]; omega
    have ih := F20_ok k n (IntKind.wrap .i64 (Int.tdiv a 10)) (by omega) (by omega) (by rw [wrap64 (by omega) (by omega), Nat.pow_succ] at *; omega) (by rw [wrap64 (by omega) (by omega)]; omega) (by rw [wrap64 (by omega) (by omega)]; omega)
    obtain ⟨t1, t2⟩ := ten_at hmod (by omega)
    rw [ih, t1, t2]
    have hl := pr_len (k + 1) (IntKind.wrap .i64 (Int.tdiv a 10))
    have hb : decide ((pr (k + 1) (IntKind.wrap .i64 (Int.tdiv a 10))).length + ([UInt8.ofNat (48 + a.natAbs % 10)] : List UInt8).length ≤ 9223372036854775807) = true := decide_eq_true (by simp; omega)
    dsimp only
    rw [hb]
    have e2 : pr (k + 1 + 1) a = pr (k + 1) (IntKind.wrap .i64 (Int.tdiv a 10)) ++ [UInt8.ofNat (48 + a.natAbs % 10)] := by
      rw [wrap64 (by omega) (by omega), hdiv]
      unfold pr
      rw [if_neg (by omega), if_neg (by omega)]
      have e3 : (((a.natAbs / 10 : Nat) : Int)).natAbs = a.natAbs / 10 := by omega
      rw [e3, digs, if_neg (by omega)]
    rw [e2]
    rfl
termination_by k => k

theorem F20_print (n : Nat) (hn : 30 < n) (a : Int) (h1 : -9223372036854775808 ≤ a) (h2 : a ≤ 9223372036854775807) : F20 n a = some (printI a) := by
  have hp : (10 : Nat) ^ 25 = 10000000000000000000000000 := by decide
  exact F20_ok 24 n a (by omega) (by omega) (by omega) h1 h2

theorem printI_len (a : Int) : (printI a).length ≤ 26 := pr_len 25 a

end Go.Proofs.YtllhidkadhoipaaDoor.Ab.Fp
