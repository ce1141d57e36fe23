/- What the law PatchEmpty's Lean function answers: true, whatever the two rows of numbers. For every input. -/
import Derived.Test.YtdkelhdlfeendaaPatchPu
namespace Go.Proofs.Ytdkelhdlfeendaa.Ab
open Go
set_option linter.unusedSimpArgs false
set_option linter.unusedVariables false

/-- What is no object takes the whole place. -/
theorem merge_whole_n {n : Nat} {x p : V} (h : p.kind ≠ 6) : F15 (n + 1) x p = some p := by
  simp only [F15, F15B]
  rw [show (p.kind != 6) = true by simp [h]]
  simp only [cond_true, V.eta]

theorem merge_whole {x p : V} (h : p.kind ≠ 6) : F15 100 x p = some p := merge_whole_n (n := 99) h

/-- An object without members changes nothing in an object. -/
theorem merge_empty_n {n : Nat} {x : V} {d : Nat} (hx : Good (d + 1) x) : F15 (n + 2) x ⟨6, false, 0, [], [], []⟩ = some (if x.kind = 6 then x else ⟨6, false, 0, [], [], []⟩) := by
  obtain ⟨h1, h2, h3, h4, _⟩ := hx
  simp only [F15, F15B]
  rw [show ((6 : Int) != 6) = false from rfl]
  simp only [cond_false]
  by_cases hk : x.kind = 6
  · obtain ⟨_, _, e1, e2, e3⟩ := h3 hk
    rw [show (x.kind == 6) = true by simp [hk]]
    have b1 : x.names.length * 16 ≤ maxRoom := by simp only [maxRoom]; omega
    have b2 : x.names.length ≤ maxRoom := by simp only [maxRoom]; omega
    have b3 : x.kids.length * 88 ≤ maxRoom := by simp only [maxRoom]; omega
    have b4 : x.kids.length ≤ maxRoom := by simp only [maxRoom]; omega
    simp only [cond_true, decide_eq_true b1, decide_eq_true b2, decide_eq_true b3, decide_eq_true b4, Bool.and_true, F15j0, if_pos hk]
    have e : x = ⟨6, false, 0, [], x.names, x.kids⟩ := by
      rw [← hk, ← e1, ← e2, ← e3, V.eta]
    rw [e]
    rfl
  · rw [show (x.kind == 6) = false by simp [hk]]
    simp only [cond_false, if_neg hk]
    rfl

theorem merge_empty {x : V} {d : Nat} (hx : Good (d + 1) x) : F15 100 x ⟨6, false, 0, [], [], []⟩ = some (if x.kind = 6 then x else ⟨6, false, 0, [], [], []⟩) := merge_empty_n (n := 98) hx

theorem patchEmpty_pure (l m : List Int) : F5 100 l m = some true := by
  unfold F5
  by_cases h : (l.length : Int) > 60
  · rw [decide_eq_true h, awake_true]
    rfl
  rw [decide_eq_false h]
  by_cases h' : (m.length : Int) > 60
  · rw [decide_eq_true h', awake_true]
    rfl
  rw [decide_eq_false h']
  obtain ⟨x, x1, x2⟩ := Small_good (zs := l) (by omega)
  obtain ⟨p, p1, p2⟩ := Small_good (zs := m) (by omega)
  simp only [cond_false, x1, p1]
  have fin : ∀ w : V, (if x.kind = 6 then x else ⟨6, false, 0, [], [], []⟩) = w → Sz 5 w → F5j0 100 x.kind x.b x.n x.s x.names x.kids p.kind p.b p.n p.s p.names p.kids 6 false 0 [] [] [] w.kind w.b w.n w.s w.names w.kids = some true := by
    intro w hw hz
    simp only [F5j0, V.eta, merge_empty x2, hw, same_self 5 w 100 hz (by omega), cond_true]
    by_cases hk : p.kind = 6
    · rw [show (p.kind == 6) = true by simp [hk], awake_true]
      rfl
    · rw [show (p.kind == 6) = false by simp [hk]]
      simp only [cond_false, merge_whole hk, same_self 5 p 100 p2.sz (by omega), cond_true, awake_true]
  by_cases hk : x.kind = 6
  · rw [show (x.kind != 6) = false by simp [hk]]
    exact fin x (by rw [if_pos hk]) x2.sz
  · rw [show (x.kind != 6) = true by simp [hk]]
    exact fin ⟨6, false, 0, [], [], []⟩ (by rw [if_neg hk]) ⟨by simp, by simp, by simp⟩

end Go.Proofs.Ytdkelhdlfeendaa.Ab
