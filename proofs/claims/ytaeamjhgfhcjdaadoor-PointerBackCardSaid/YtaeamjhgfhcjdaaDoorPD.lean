/- utf8.All and the document's All tell the same. -/
import Derived.Test.YtaeamjhgfhcjdaaDoorPC
namespace Go.Proofs.YtaeamjhgfhcjdaaDoor.Ab.Pt
open Go Go.RowKit Go.Proofs.YtaeamjhgfhcjdaaDoor.Ab
set_option maxRecDepth 100000
set_option linter.unusedVariables false
set_option linter.unusedSimpArgs false

theorem room4 (m : Nat) (h : m ≤ 200000) : (decide (m * 4 ≤ maxRoom) && decide (m ≤ maxRoom)) = true := by
  rw [Bool.and_eq_true, decide_eq_true_eq, decide_eq_true_eq]
  unfold maxRoom
  omega

theorem inB_pre' (pre : List Int) (x : Int) (l : List Int) : inB (pre.length : Int) (pre ++ x :: l).length = true := inB_pre pre x l
theorem getD_preI (pre : List Int) (x d : Int) (l : List Int) : (pre ++ x :: l).getD (Int.toNat (pre.length : Int)) d = x := getD_pre pre x d l

/-- What is begun. -/
def Begun (k : Nat) (f c d : Int) : Prop := k = 0 ∨ (isB f ∧ (k : Int) < lng f ∧ d = lng f ∧ 0 ≤ c ∧ ((k = 1 ∧ c ≤ 31) ∨ (k = 2 ∧ c ≤ 2047) ∨ (k = 3 ∧ c ≤ 131071)))

def outU (u : List Int × Nat × Bool) : List Int × Int × Bool := (u.1, (u.2.1 : Int), u.2.2)

theorem F35_loop (n : Nat) : ∀ (l pre acc : List Int) (k : Nat) (f c d : Int) (m : Nat), (∀ x ∈ l, isB x) → (pre ++ l).length ≤ 100000 → acc.length ≤ pre.length → Begun k f c d → l.length + 1 ≤ m →
    F35l0 n m (pre ++ l) acc (pre ++ l) ((pre ++ l).length : Int) (pre.length : Int) f c (k : Int) d = some (outU (U l pre.length acc k f c))
  | [], pre, acc, k, f, c, d, m, _, hl, ha, hb, hm => by
    obtain ⟨m, rfl⟩ : ∃ j, m = j + 1 := ⟨m - 1, by simp at hm; omega⟩
    unfold F35l0 F35l0F
    by_cases hk : k = 0
    · subst hk
      simp [F55, U, outU]
    · have h0 : 0 < k := by omega
      simp [F55, U, outU, hk, h0]
  | x :: l, pre, acc, k, f, c, d, m, hB, hl, ha, hb, hm => by
    obtain ⟨m, rfl⟩ : ∃ j, m = j + 1 := ⟨m - 1, by simp at hm; omega⟩
    have hx := hB x (by simp)
    have hB' : ∀ y ∈ l, isB y := fun y hy => hB y (by simp [hy])
    have hlt : decide ((pre.length : Int) < ((pre ++ x :: l).length : Int)) = true := by simp; omega
    have hlen : pre.length + 1 ≤ 100000 := by simp at hl; omega
    have hw : IntKind.wrap .i64 ((pre.length : Int) + 1) = ((pre ++ [x]).length : Int) := by rw [wrap64 (by omega) (by omega)]; simp
    have hr : ∀ y : Int, (decide (((acc).length + (([y] : List Int)).length) * 4 ≤ maxRoom) && decide ((acc).length + (([y] : List Int)).length ≤ maxRoom)) = true := fun y => room4 _ (by simp; omega)
    have ih := fun acc' k' f' c' d' h1 h2 => F35_loop n l (pre ++ [x]) acc' k' f' c' d' m hB' (by simpa using hl) h1 h2 (by simp at hm; omega)
    simp only [List.append_assoc, List.singleton_append] at ih
    have hl1 : (pre ++ [x]).length = pre.length + 1 := by simp
    unfold F35l0 F35l0F
    rw [hlt, inB_pre', getD_preI]
    simp only [cond_true, hr, hw]
    by_cases hk : k = 0
    · subst hk
      rw [show ((0 : Nat) : Int) = 0 from rfl]
      by_cases h1 : lng x = 1
      · rw [push_one n hx h1]
        simp only [beq_self_eq_true, cond_true, U, if_true, h1]
        have := ih (acc ++ [x]) 0 f c d (by simp; omega) (.inl rfl)
        rw [hl1] at this
        rw [hl1]
        exact this
      · by_cases h0 : lng x = 0
        · rw [push_none n hx h0]
          simp [U, h0, outU]
        · have h2 : 2 ≤ lng x := by have := lng_nonneg x; omega
          rw [push_begin n hx h2]
          have hlr := lead_range hx h2
          have e12 : ((1 : Int) == 2) = false := rfl
          have e13 : ((1 : Int) == 3) = false := rfl
          simp only [e12, e13, cond_false, U, if_true, h1, h0, if_false]
          have := ih acc 1 x (lead x) (lng x) (by simp; omega) (.inr ⟨hx, by omega, rfl, hlr.1, .inl ⟨rfl, hlr.2⟩⟩)
          rw [hl1] at this
          rw [hl1]
          exact this
    · obtain ⟨hf, hkl, rfl, hc0, hc⟩ := hb.resolve_left hk
      have hcb : c ≤ 33554431 := by omega
      cases hcont : cont k f x with
      | false =>
        rw [push_wrong n hf (by omega) hkl hx hcont]
        simp [U, hk, hcont, outU]
      | true =>
        rw [push_cont n hf (by omega) hkl hc0 hcb hx hcont]
        have hxr : 128 ≤ x ∧ x ≤ 191 := by
          simp only [cont, Bool.and_eq_true, decide_eq_true_eq] at hcont
          exact hcont.2
        have hll := lng_le f
        by_cases hh : (k : Int) + 1 < lng f
        · simp only [if_pos hh, U, hk, if_false, hcont, if_true]
          have e12 : ((1 : Int) == 2) = false := rfl
          have e13 : ((1 : Int) == 3) = false := rfl
          simp only [e12, e13, cond_false]
          have := ih acc (k + 1) f (c * 64 + (x - 128)) (lng f) (by simp; omega) (.inr ⟨hf, by omega, rfl, by omega, by omega⟩)
          rw [hl1] at this
          rw [hl1]
          exact this
        · simp only [if_neg hh, U, hk, if_false, hcont, if_true]
          simp only [beq_self_eq_true, cond_true]
          have := ih (acc ++ [c * 64 + (x - 128)]) 0 f (c * 64 + (x - 128)) (lng f) (by simp; omega) (.inl rfl)
          rw [hl1] at this
          rw [hl1]
          exact this

/-- What utf8.All tells. -/
theorem F35_eq (n : Nat) (l : List Int) (hB : ∀ x ∈ l, isB x) (hl : l.length ≤ 100000) (hn : l.length + 1 ≤ n) : F35 n l = some (outU (U l 0 [] 0 0 0)) := by
  unfold F35
  have h53 : F53 n = some (0, 0, 0, 0, ()) := rfl
  rw [h53]
  have hr := room4 l.length (by omega)
  have hg : (((((decide ((0 : Int) ≤ 0) && decide ((0 : Int) ≤ ((l).length : Int))) && decide ((Int.toNat ((l).length : Int)) * 4 ≤ maxRoom)) && decide ((Int.toNat ((l).length : Int)) ≤ maxRoom)) && true) && true) = true := by
    rw [Bool.and_eq_true] at hr
    simp only [Int.toNat_natCast, hr.1, hr.2]
    simp
  refine (congrArg (fun b : Bool => bif b then F35l0 n n l (List.replicate (Int.toNat 0) (0 : Int)) l ((l).length : Int) 0 0 0 0 0 else none) hg).trans ?_
  exact F35_loop n l [] [] 0 0 0 0 n hB (by simpa using hl) (Nat.le_refl _) (.inl rfl) hn

/-! ### The document's -/

/-- Do all bytes behind the first k stand rightly? -/
def okC (f : Int) : Nat → List Int → Bool
  | _, [] => true
  | k, x :: r => cont k f x && okC f (k + 1) r

theorem okC_append (f : Int) : ∀ (l m : List Int) (k : Nat), okC f k (l ++ m) = (okC f k l && okC f (k + l.length) m)
  | [], m, k => by simp [okC]
  | x :: l, m, k => by
    simp only [List.cons_append, okC, okC_append f l m (k + 1), List.length_cons, Bool.and_assoc]
    rw [show k + 1 + l.length = k + (l.length + 1) by omega]

theorem F58_loop (n : Nat) (f : Int) (L : Int) : ∀ (l pre : List Int) (m : Nat), (f :: pre ++ l).length ≤ 4 → l.length + 1 ≤ m →
    F58l0 n m (f :: pre ++ l) L ((f :: pre).length : Int) = some (if okC f (pre.length + 1) l then (if L = ((f :: pre ++ l).length : Int) then 2 else 1) else 0)
  | [], pre, m, hl, hm => by
    obtain ⟨m, rfl⟩ : ∃ j, m = j + 1 := ⟨m - 1, by simp at hm; omega⟩
    unfold F58l0 F58l0F
    by_cases h : L = ((pre.length : Int) + 1)
    · simp [okC, h]
    · have : (L == (pre.length : Int) + 1) = false := by simpa using h
      simp [okC, h, this]
  | x :: l, pre, m, hl, hm => by
    obtain ⟨m, rfl⟩ : ∃ j, m = j + 1 := ⟨m - 1, by simp at hm; omega⟩
    have hlt : decide (((f :: pre).length : Int) < ((f :: pre ++ x :: l).length : Int)) = true := by simp; omega
    have ib := inB_pre' (f :: pre) x l
    have gx := getD_preI (f :: pre) x (Ty.dflt (.int .u8)) l
    have hw : IntKind.wrap .i64 (((f :: pre).length : Int) + 1) = ((f :: (pre ++ [x])).length : Int) := by
      simp at hl
      rw [wrap64 (by simp; omega) (by simp; omega)]; simp
    have ih := F58_loop n f L l (pre ++ [x]) m (by simpa using hl) (by simp at hm; omega)
    have e1 : (f :: (pre ++ [x]) ++ l) = f :: pre ++ x :: l := by simp
    rw [e1] at ih
    have i0 : inB 0 (f :: pre ++ x :: l).length = true := by simp [inB]; omega
    have g0 : (f :: pre ++ x :: l).getD (Int.toNat 0) (Ty.dflt (.int .u8)) = f := by simp
    have tail : (bif inB ((f :: pre).length : Int) (f :: pre ++ x :: l).length then
        (bif (decide (((f :: pre ++ x :: l).getD (Int.toNat ((f :: pre).length : Int)) (Ty.dflt (.int .u8))) < 128)) then some 0
        else (bif inB ((f :: pre).length : Int) (f :: pre ++ x :: l).length then
          (bif (decide (((f :: pre ++ x :: l).getD (Int.toNat ((f :: pre).length : Int)) (Ty.dflt (.int .u8))) > 191)) then some 0
          else F58l0 n m (f :: pre ++ x :: l) L (IntKind.wrap .i64 (((f :: pre).length : Int) + 1))) else none)) else none) =
        some (if (decide (128 ≤ x) && decide (x ≤ 191)) && okC f (pre.length + 2) l then (if L = ((f :: pre ++ x :: l).length : Int) then 2 else 1) else 0) := by
      rw [ib, gx, hw, ih]
      have e2 : (pre ++ [x]).length + 1 = pre.length + 2 := by simp
      rw [e2]
      by_cases h1 : x < 128
      · have : ¬ (128 ≤ x) := by omega
        simp [h1, this]
      · have h1' : 128 ≤ x := by omega
        by_cases h2 : 191 < x
        · have : ¬ (x ≤ 191) := by omega
          have : decide (x > 191) = true := by simpa using h2
          simp [*]
        · have h2' : x ≤ 191 := by omega
          have : decide (x > 191) = false := by simpa using h2'
          simp [h1, h1', h2', this]
    unfold F58l0 F58l0F
    rw [hlt, cond_true]
    by_cases hp : pre = []
    · subst hp
      have e11 : ((([f] : List Int).length : Int) == 1) = true := rfl
      have i1 : inB 1 (f :: [] ++ x :: l).length = true := by simp [inB]; omega
      have g1 : (f :: [] ++ x :: l).getD (Int.toNat 1) (Ty.dflt (.int .u8)) = x := by simp
      simp only [e11, cond_true, i0, i1, g0, g1, F74_eq]
      cases hs : sec f x with
      | false => simp [okC, cont, hs]
      | true =>
        simp only [Bool.not_true, cond_false]
        rw [tail]
        simp [okC, cont, hs]
    · have e11 : (((f :: pre).length : Int) == 1) = false := by
        have := List.length_pos_iff.2 hp
        simp; omega
      rw [e11, cond_false, tail]
      have hp1 : ¬ (pre.length + 1 = 1) := by have := List.length_pos_iff.2 hp; omega
      simp only [okC, cont, if_neg hp1, Bool.true_and]

theorem F58_eq (n : Nat) (hn : 5 ≤ n) (f : Int) (r : List Int) (hf : isB f) :
    F58 n (f :: r) = some (if 4 < (f :: r).length then 0 else if lng f < ((f :: r).length : Int) then 0 else if okC f 1 r then (if lng f = ((f :: r).length : Int) then 2 else 1) else 0) := by
  unfold F58
  have e0 : (((f :: r).length : Int) == 0) = false := by simp; omega
  rw [e0, cond_false]
  by_cases h4 : 4 < (f :: r).length
  · have : decide (((f :: r).length : Int) > 4) = true := decide_eq_true (by omega)
    rw [this, if_pos h4]; rfl
  · have e4 : decide (((f :: r).length : Int) > 4) = false := decide_eq_false (by omega)
    have i0 : inB 0 (f :: r).length = true := by simp [inB]
    have g0 : (f :: r).getD (Int.toNat 0) (Ty.dflt (.int .u8)) = f := by simp
    rw [e4, i0, g0, F73_eq n hf, if_neg h4]
    simp only [cond_false, cond_true]
    by_cases hl : lng f < ((f :: r).length : Int)
    · have : decide (lng f < ((f :: r).length : Int)) = true := by simpa using hl
      rw [this, if_pos hl]; rfl
    · have : decide (lng f < ((f :: r).length : Int)) = false := by simpa using hl
      rw [this, if_neg hl, cond_false]
      have hh := F58_loop n f (lng f) r [] n (by simpa using h4) (by simp at h4; omega)
      simpa using hh

end Go.Proofs.YtaeamjhgfhcjdaaDoor.Ab.Pt
