/- What Add does to an arena, whatever it is handed. -/
import Derived.Test.YtoonknmckeggaaaAQ
namespace Go.Proofs.Ytoonknmckeggaaa.Ab.Ar
open Go Go.RowKit
set_option maxRecDepth 100000
set_option linter.unusedVariables false
set_option linter.unusedSimpArgs false

def isOpen (k : Int) : Prop := k = 5 ∨ k = 6

/-- May this be put there? -/
def Good (ds : List Dt) (ps : List Int) (p : Int) (x : NI) : Prop :=
  (1 ≤ x.1 ∧ x.1 ≤ 6) ∧ ((p = -1 ∧ ps.length = 0) ∨ (0 ≤ p ∧ p < (ps.length : Int) ∧ isOpen (dtOf ds p.toNat).1))

def kindP (ds : List Dt) (p : Int) : Int := if 0 ≤ p then (dtOf ds p.toNat).1 else 0

theorem F11_good {ds : List Dt} {ps : List Int} (n : Nat) (h : Ok ds ps) (hl : ps.length < 200) {p : Int} {x : NI} (hg : Good ds ps p x) :
    F11 n (build ds ps, ()) p x = some ((build (ds ++ [kept x (kindP ds p)]) (ps ++ [p]), ()), (ps.length : Int)) ∧
    F12 n (rbuild ds ps) p x = some (rbuild (ds ++ [kept x (kindP ds p)]) (ps ++ [p]), (ps.length : Int)) := by
  obtain ⟨hk, ⟨rfl, h0⟩ | ⟨h1, h2, h3⟩⟩ := hg
  · have hps : ps = [] := List.length_eq_zero_iff.1 h0
    have hds : ds = [] := List.length_eq_zero_iff.1 (by rw [h.len, h0])
    subst hps hds
    have e4 : decide (x.1 < 1) = false := decide_eq_false (by omega)
    have e5 : decide (x.1 > 6) = false := decide_eq_false (by omega)
    have hkp : kindP [] (-1) = 0 := rfl
    constructor
    · unfold F11
      simp only [e4, e5, cond_false, F26_eq]
      rfl
    · have hj3 := F12j3_eq n h hl (p := -1) (by simp) (kept x 0) [] [] rfl rfl
      unfold F12 F12j0 F12j1 F12j2
      simp only [e4, e5, cond_false]
      rw [hkp]
      refine Eq.trans ?_ hj3
      unfold kept
      by_cases h2 : x.1 = 2
      · simp [cond_eq_ite, h2, rbuild]
      · by_cases h3 : x.1 = 3
        · simp [cond_eq_ite, h3, rbuild]
        · by_cases h4 : x.1 = 4 <;> simp [cond_eq_ite, h2, h3, h4, rbuild]
  · obtain ⟨q, rfl⟩ : ∃ q : Nat, p = (q : Int) := ⟨p.toNat, by omega⟩
    have hq : q < ps.length := by omega
    have e : kindP ds (q : Int) = (dtOf ds q).1 := by simp [kindP]
    rw [e]
    have h3' : (dtOf ds q).1 = 5 ∨ (dtOf ds q).1 = 6 := by simpa [isOpen] using h3
    exact ⟨F11_add n h hl hq hk h3', F12_add n h hl hq hk h3'⟩

theorem ok_good {ds : List Dt} {ps : List Int} (h : Ok ds ps) (hl : ps.length < 200) {p : Int} {x : NI} (hg : Good ds ps p x) : Ok (ds ++ [kept x (kindP ds p)]) (ps ++ [p]) := by
  refine ⟨by simp [h.len], by simp; omega, fun i q hi => ?_, fun i d hi => ?_⟩
  · by_cases hlt : i < ps.length
    · rw [List.getElem?_append_left hlt] at hi
      exact h.par i q hi
    · rw [List.getElem?_append_right (by omega)] at hi
      have h0 : i - ps.length = 0 := by
        have := (List.getElem?_eq_some_iff.1 hi).1
        simp at this
        omega
      rw [h0] at hi
      simp at hi
      subst hi
      have : i = ps.length := by omega
      subst this
      rcases hg.2 with ⟨h1, h2⟩ | ⟨h1, h2, _⟩
      · exact .inl ⟨h2, h1⟩
      · exact .inr ⟨h1, h2⟩
  · by_cases hlt : i < ds.length
    · rw [List.getElem?_append_left hlt] at hi
      exact h.kind i d hi
    · rw [List.getElem?_append_right (by omega)] at hi
      have h0 : i - ds.length = 0 := by
        have := (List.getElem?_eq_some_iff.1 hi).1
        simp at this
        omega
      rw [h0] at hi
      simp at hi
      subst hi
      exact hg.1

theorem F11_bad {ds : List Dt} {ps : List Int} (n : Nat) (h : Ok ds ps) {p : Int} {x : NI} (hg : ¬ Good ds ps p x) :
    F11 n (build ds ps, ()) p x = some ((build ds ps, ()), -1) ∧ F12 n (rbuild ds ps) p x = some (rbuild ds ps, -1) := by
  have e0 : (rbuild ds ps).1.length = ps.length := by simp [rbuild]
  by_cases hx : x.1 < 1
  · have e4 : decide (x.1 < 1) = true := decide_eq_true hx
    constructor
    · unfold F11
      simp only [e4, cond_true]
      simp only [cond_eq_ite, build_length]
      split <;> (try split) <;> (try split) <;> first | rfl | (rename_i h1 h2 h3; simp [inB] at h1 h2 h3; omega)
    · unfold F12
      simp only [e4, cond_true]
  · by_cases hx6 : x.1 > 6
    · have e4 : decide (x.1 < 1) = false := decide_eq_false hx
      have e5 : decide (x.1 > 6) = true := decide_eq_true hx6
      constructor
      · unfold F11
        simp only [e4, e5, cond_true, cond_false]
        simp only [cond_eq_ite, build_length]
        split <;> (try split) <;> (try split) <;> first | rfl | (rename_i h1 h2 h3; simp [inB] at h1 h2 h3; omega)
      · unfold F12
        simp only [e4, e5, cond_true, cond_false]
    · have e4 : decide (x.1 < 1) = false := decide_eq_false hx
      have e5 : decide (x.1 > 6) = false := decide_eq_false hx6
      have hg2 : ¬ ((p = -1 ∧ ps.length = 0) ∨ (0 ≤ p ∧ p < (ps.length : Int) ∧ isOpen (dtOf ds p.toNat).1)) := fun e => hg ⟨⟨by omega, by omega⟩, e⟩
      by_cases hin : 0 ≤ p ∧ p < (ps.length : Int)
      · obtain ⟨q, rfl⟩ : ∃ q : Nat, p = (q : Int) := ⟨p.toNat, by omega⟩
        have hq : q < ps.length := by omega
        have hno : ¬ isOpen (dtOf ds q).1 := fun e => hg2 (.inr ⟨hin.1, hin.2, by simpa using e⟩)
        have n5 : ((dtOf ds q).1 == 5) = false := by simp; exact fun e => hno (.inl e)
        have n6 : ((dtOf ds q).1 == 6) = false := by simp; exact fun e => hno (.inr e)
        have gp : ∀ d, (build ds ps).getD (Int.toNat (q : Int)) d = node ds ps q := fun d => by rw [Int.toNat_natCast]; exact build_getD hq d
        have e8 : (node ds ps q).1.1 = (dtOf ds q).1 := rfl
        have e1 : decide ((q : Int) < 0) = false := decide_eq_false (by omega)
        have e2 : decide ((q : Int) ≥ (ps.length : Int)) = false := decide_eq_false (by omega)
        have e3 : inB (q : Int) ps.length = true := by simp [inB]; omega
        constructor
        · unfold F11 F25
          simp only [e1, e2, e3, e4, e5, build_length, gp, e8, n5, n6, cond_true, cond_false, Bool.not_false]
        · have r1 : ((q : Int) == (-1)) = false := by simp
          have r2 : decide ((q : Int) < -1) = false := decide_eq_false (by omega)
          have r7 : decide ((q : Int) ≥ 0) = true := by simp
          have gr : ∀ d, (rbuild ds ps).1.getD q d = (node ds ps q).1 := fun d => getD_range _ hq d
          have m5 : ((dtOf ds q).1 != 5) = true := by simp [bne, n5]
          have m6 : ((dtOf ds q).1 != 6) = true := by simp [bne, n6]
          unfold F12 F12j0
          simp only [e0, r1, r2, e2, e4, e5, e3, r7, Int.toNat_natCast, gr, e8, m5, m6, cond_true, cond_false]
      · constructor
        · unfold F11
          simp only [e4, e5, cond_false, build_length]
          by_cases hp : p < 0
          · rw [decide_eq_true hp]
            simp only [cond_true]
            by_cases hp1 : p = -1
            · have h0 : (ps.length : Int) > 0 := by
                have : ps.length ≠ 0 := fun e => hg2 (.inl ⟨hp1, e⟩)
                omega
              rw [decide_eq_true h0, hp1]
              rfl
            · have : (p != -1) = true := by simpa using hp1
              rw [this]
              rfl
          · rw [decide_eq_false hp, decide_eq_true (show p ≥ (ps.length : Int) by omega)]
            have : (p != -1) = true := by simp; omega
            simp only [cond_true, cond_false, this]
        · unfold F12
          simp only [e4, e5, cond_false, e0]
          by_cases hp1 : p = -1
          · have h0 : (ps.length : Int) > 0 := by
              have : ps.length ≠ 0 := fun e => hg2 (.inl ⟨hp1, e⟩)
              omega
            rw [decide_eq_true h0, hp1]
            rfl
          · have : (p == -1) = false := by simpa using hp1
            rw [this]
            simp only [cond_false]
            by_cases hp : p < -1
            · rw [decide_eq_true hp]; rfl
            · rw [decide_eq_false hp, decide_eq_true (show p ≥ (ps.length : Int) by omega)]
              rfl

/-- What comes of Add: both arenas alike. -/
theorem add_both {ds : List Dt} {ps : List Int} (n : Nat) (h : Ok ds ps) (hl : ps.length < 200) (p : Int) (x : NI) :
    ∃ ds' ps' r, F11 n (build ds ps, ()) p x = some ((build ds' ps', ()), r) ∧ F12 n (rbuild ds ps) p x = some (rbuild ds' ps', r) ∧ Ok ds' ps' ∧ ps'.length ≤ ps.length + 1 := by
  by_cases hg : Good ds ps p x
  · obtain ⟨h1, h2⟩ := F11_good n h hl hg
    exact ⟨_, _, _, h1, h2, ok_good h hl hg, by simp⟩
  · obtain ⟨h1, h2⟩ := F11_bad n h hg
    exact ⟨_, _, _, h1, h2, h, by omega⟩
end Go.Proofs.Ytoonknmckeggaaa.Ab.Ar
