/- strings.ReplaceAll byte by byte; the tokens of a pointer as the document writes and reads them. -/
import Derived.Test.YtaeamjhgfhcjdaaDoorPE
import Derived.Lib.CountLaws
import Derived.Lib.Replace
import Derived.Laws.RangeAny
import Derived.Laws.RangeString
namespace Go.Proofs.YtaeamjhgfhcjdaaDoor.Ab.Pt
open Go Go.RowKit Go.Proofs.YtaeamjhgfhcjdaaDoor.Ab
set_option maxRecDepth 100000
set_option linter.unusedVariables false
set_option linter.unusedSimpArgs false

/-! ### ReplaceAll -/

theorem ra_eq {s old new : List UInt8} (h : old ≠ new) : Lib.replaceAll s old new = Lib.replaceK old new (Lib.count s old) s := by
  unfold Lib.replaceAll Lib.replace Lib.replaceNum
  rw [if_neg (by simpa using h), if_pos (.inl (by decide))]

theorem ra_nil {old new : List UInt8} (h : old ≠ new) (h0 : old ≠ []) : Lib.replaceAll [] old new = [] := by
  rw [ra_eq h]
  have : Lib.index [] old = -1 := by
    unfold Lib.index
    cases old with
    | nil => exact absurd rfl h0
    | cons => rfl
  rw [Lib.count_miss this]; rfl

theorem ra_hit {s old new : List UInt8} (h : old ≠ new) (h0 : old ≠ []) (hp : old.isPrefixOf s = true) : Lib.replaceAll s old new = new ++ Lib.replaceAll (s.drop old.length) old new := by
  have hi : Lib.index s old = ((0 : Nat) : Int) := by
    cases s with
    | nil => cases old with
      | nil => exact absurd rfl h0
      | cons => cases hp
    | cons b l => unfold Lib.index; rw [if_pos hp]; rfl
  rw [ra_eq h, ra_eq h, Lib.count_hit h0 hi, Nat.add_comm, Lib.replaceK_hit _ _ _ _ _ hi, Nat.zero_add]
  simp

theorem ra_miss {x : UInt8} {r old new : List UInt8} (h : old ≠ new) (h0 : old ≠ []) (hp : old.isPrefixOf (x :: r) = false) : Lib.replaceAll (x :: r) old new = x :: Lib.replaceAll r old new := by
  have hstep : Lib.index (x :: r) old = if Lib.index r old == -1 then -1 else Lib.index r old + 1 := by
    conv => lhs; unfold Lib.index
    rw [hp]; rfl
  rw [ra_eq h, ra_eq h]
  have hge := Lib.index_ge r old
  by_cases hm : Lib.index r old = -1
  · rw [hm] at hstep
    have hs : Lib.index (x :: r) old = -1 := hstep
    rw [Lib.count_miss hs, Lib.count_miss hm]; rfl
  · obtain ⟨i, hi⟩ : ∃ i : Nat, Lib.index r old = i := ⟨(Lib.index r old).toNat, by omega⟩
    have hs : Lib.index (x :: r) old = ((i + 1 : Nat) : Int) := by
      rw [hstep, hi, if_neg (by simp)]; rfl
    rw [Lib.count_hit h0 hs, Lib.count_hit h0 hi]
    have e : (x :: r).drop (i + 1 + old.length) = r.drop (i + old.length) := by
      rw [show i + 1 + old.length = (i + old.length) + 1 by omega, List.drop_succ_cons]
    rw [e, Nat.add_comm 1, Lib.replaceK_hit _ _ _ _ _ hs, Lib.replaceK_hit _ _ _ _ _ hi, e]
    simp

theorem ra_one {a : UInt8} {new : List UInt8} (h : [a] ≠ new) : ∀ s : List UInt8, Lib.replaceAll s [a] new = s.flatMap fun x => if x = a then new else [x]
  | [] => ra_nil h (by simp)
  | x :: r => by
    by_cases hx : x = a
    · subst hx
      rw [ra_hit h (by simp) (by simp [List.isPrefixOf])]
      simp [ra_one h r]
    · rw [ra_miss h (by simp) (by simp [List.isPrefixOf]; exact fun e => hx e.symm)]
      simp [ra_one h r, hx]

/-- A token, as it is written. -/
def esc (t : List UInt8) : List UInt8 := t.flatMap fun x => if x = 126 then [126, 48] else if x = 47 then [126, 49] else [x]

theorem tokB_esc (t : List UInt8) : tokB t = esc t := by
  unfold tokB esc
  rw [ra_one (by decide), ra_one (by decide)]
  induction t with
  | nil => rfl
  | cons x t ih =>
    simp only [List.flatMap_cons, List.flatMap_append, ih]
    congr 1
    by_cases h : x = 126
    · subst h; decide
    · by_cases h2 : x = 47
      · subst h2; decide
      · simp [h, h2]

/-- A token, as it is meant. -/
def unesc : List UInt8 → List UInt8
  | [] => []
  | 126 :: 48 :: r => 126 :: unesc r
  | 126 :: 49 :: r => 47 :: unesc r
  | x :: r => x :: unesc r

/-- Behind each tilde stands a 0 or a 1. -/
def wf : List UInt8 → Bool
  | [] => true
  | [x] => x != 126
  | x :: y :: r => if x = 126 then (y == 48 || y == 49) && wf r else wf (y :: r)

theorem ra2_pre (a b x y : UInt8) (r : List UInt8) : [a, b].isPrefixOf (x :: y :: r) = (a == x && b == y) := by simp [List.isPrefixOf]

theorem F36_wf : ∀ (k : Nat) (s : List UInt8), s.length ≤ k → wf s = true → Lib.replaceAll (Lib.replaceAll s [126, 49] [47]) [126, 48] [126] = unesc s
  | _, [], _, _ => by rw [ra_nil (by decide) (by simp), ra_nil (by decide) (by simp)]; rfl
  | 0, _ :: _, h, _ => by simp at h
  | k + 1, [x], _, hw => by
    have hx : x ≠ 126 := by simpa [wf] using hw
    have h1 : Lib.replaceAll [x] [126, 49] [47] = [x] := by
      rw [ra_miss (by decide) (by simp) (by simp [List.isPrefixOf]), ra_nil (by decide) (by simp)]
    rw [h1, ra_miss (by decide) (by simp) (by simp [List.isPrefixOf]), ra_nil (by decide) (by simp)]
    unfold unesc
    split <;> simp_all [unesc]
  | k + 1, x :: y :: r, hk, hw => by
    have hkr : r.length ≤ k := by simp at hk; omega
    unfold wf at hw
    by_cases hx : x = 126
    · subst hx
      rw [if_pos rfl] at hw
      simp only [Bool.and_eq_true, Bool.or_eq_true, beq_iff_eq] at hw
      obtain ⟨hy | hy, hwr⟩ := hw
      · subst hy
        have ih := F36_wf k r hkr hwr
        have h1 : Lib.replaceAll (126 :: 48 :: r) [126, 49] [47] = 126 :: 48 :: Lib.replaceAll r [126, 49] [47] := by
          rw [ra_miss (by decide) (by simp) (by rw [ra2_pre]; decide)]
          congr 1
          cases r with
          | nil => rw [ra_miss (by decide) (by simp) (by decide)]
          | cons z r => rw [ra_miss (by decide) (by simp) (by rw [ra2_pre]; rfl)]
        rw [h1, ra_hit (by decide) (by simp) (by rw [ra2_pre]; decide)]
        simp only [List.length_cons, List.length_nil, List.drop_succ_cons, List.drop_zero, ih]
        rfl
      · subst hy
        have ih := F36_wf k r hkr hwr
        have h1 : Lib.replaceAll (126 :: 49 :: r) [126, 49] [47] = 47 :: Lib.replaceAll r [126, 49] [47] := by
          rw [ra_hit (by decide) (by simp) (by rw [ra2_pre]; decide)]
          rfl
        rw [h1]
        generalize Lib.replaceAll r [126, 49] [47] = q at *
        have h2 : Lib.replaceAll (47 :: q) [126, 48] [126] = 47 :: Lib.replaceAll q [126, 48] [126] :=
          ra_miss (by decide) (by simp) (by cases q <;> simp [List.isPrefixOf])
        rw [h2, ih]
        rfl
    · rw [if_neg hx] at hw
      have ih := F36_wf k (y :: r) (by simp at hk ⊢; omega) hw
      have hx' : (126 == x) = false := by simpa using fun e : (126 : UInt8) = x => hx e.symm
      have h1 : Lib.replaceAll (x :: y :: r) [126, 49] [47] = x :: Lib.replaceAll (y :: r) [126, 49] [47] :=
        ra_miss (by decide) (by simp) (by rw [ra2_pre, hx']; rfl)
      rw [h1]
      generalize Lib.replaceAll (y :: r) [126, 49] [47] = q at *
      have h2 : Lib.replaceAll (x :: q) [126, 48] [126] = x :: Lib.replaceAll q [126, 48] [126] :=
        ra_miss (by decide) (by simp) (by cases q <;> simp [List.isPrefixOf]; intro e; exact absurd e.symm hx)
      rw [h2, ih]
      conv => rhs; unfold unesc
      split <;> simp_all

theorem F36_eq (n : Nat) (s : List UInt8) (hs : s.length ≤ 100000) (hw : wf s = true) : F36 n s = some (unesc s) := by
  have h1 : F38 n s [126, 49] [47] = some (Lib.replaceAll s [126, 49] [47]) := by
    unfold F38
    have : (Nat.ble s.length 4000000 && Nat.ble 1 ([126, 49] : List UInt8).length && Nat.ble ([47] : List UInt8).length 1000000) = true := by
      simp [Nat.ble_eq]; omega
    rw [this]; rfl
  have hl := replaceAll_len s [126, 49] [47] (by simp)
  have h2 : F38 n (Lib.replaceAll s [126, 49] [47]) [126, 48] [126] = some (unesc s) := by
    unfold F38
    have : (Nat.ble (Lib.replaceAll s [126, 49] [47]).length 4000000 && Nat.ble 1 ([126, 48] : List UInt8).length && Nat.ble ([126] : List UInt8).length 1000000) = true := by
      simp only [List.length_cons, List.length_nil] at hl
      simp [Nat.ble_eq]; omega
    rw [this, cond_true, F36_wf s.length s (Nat.le_refl _) hw]
  unfold F36
  rw [h1]
  dsimp only
  rw [h2]

end Go.Proofs.YtaeamjhgfhcjdaaDoor.Ab.Pt
