/- What Add does to an arena. -/
import Derived.Test.YtoonknmckeggaaaAP
namespace Go.Proofs.Ytoonknmckeggaaa.Ab.Ar
open Go Go.RowKit
set_option maxRecDepth 100000
set_option linter.unusedVariables false
set_option linter.unusedSimpArgs false

/-- What is kept of a node, under a node of this kind. -/
def kept (x : NI) (k : Int) : Dt :=
  (x.1, if x.1 = 2 then x.2.1 else false, if x.1 = 3 then x.2.2.1 else 0, if x.1 = 4 then x.2.2.2.1 else [], if k = 6 then x.2.2.2.2.1 else [])

theorem F26_eq (n : Nat) (x : NI) (k : Int) : F26 n x k = some (mk35 (kept x k) (-1) (-1)) := by
  unfold F26 kept mk35
  by_cases h2 : x.1 = 2
  · by_cases h6 : k = 6 <;> simp [cond_eq_ite, h2, h6]
  · by_cases h3 : x.1 = 3
    · by_cases h6 : k = 6 <;> simp [cond_eq_ite, h2, h3, h6]
    · by_cases h4 : x.1 = 4 <;> by_cases h6 : k = 6 <;> simp [cond_eq_ite, h2, h3, h4, h6]

theorem room (m : Nat) (h : m ≤ 1000) : (decide (m * 88 ≤ maxRoom) && decide (m ≤ maxRoom)) = true := by
  rw [Bool.and_eq_true, decide_eq_true_eq, decide_eq_true_eq]
  unfold maxRoom
  omega

theorem getD_range {α : Type} (f : Nat → α) {n i : Nat} (h : i < n) (d : α) : ((List.range n).map f).getD i d = f i := by
  simp [List.getD, h]

theorem lastI_lt {ps : List Int} {i : Int} {l : Nat} (h : (K ps i 0).getLast? = some l) : lastI (K ps i 0) = (l : Int) := by simp [lastI, h]

theorem hd_if (l : List Nat) : (if l = [] then (-1 : Int) else hd l) = hd l := by cases l <;> rfl

theorem F11_add {ds : List Dt} {ps : List Int} (n : Nat) (h : Ok ds ps) (hl : ps.length < 200) {p : Nat} (hp : p < ps.length) {x : NI} (hk : 1 ≤ x.1 ∧ x.1 ≤ 6) (ho : (dtOf ds p).1 = 5 ∨ (dtOf ds p).1 = 6) :
    F11 n (build ds ps, ()) (p : Int) x = some ((build (ds ++ [kept x (dtOf ds p).1]) (ps ++ [(p : Int)]), ()), (ps.length : Int)) := by
  have e1 : decide ((p : Int) < 0) = false := decide_eq_false (by omega)
  have e2 : decide ((p : Int) ≥ ((build ds ps).length : Int)) = false := by simp; omega
  have e3 : inB (p : Int) (build ds ps).length = true := by simp [inB]; omega
  have e4 : decide (x.1 < 1) = false := by simp; omega
  have e5 : decide (x.1 > 6) = false := by simp; omega
  have e6 : F25 n (node ds ps p).1.1 = some true := by
    show F25 n (dtOf ds p).1 = some true
    unfold F25
    rcases ho with ho | ho <;> simp [ho]
  have gp : ∀ d, (build ds ps).getD (Int.toNat (p : Int)) d = node ds ps p := fun d => by rw [Int.toNat_natCast]; exact build_getD hp d
  have final : ∀ l : List NodeI, l = (List.range ps.length).map (node (ds ++ [kept x (dtOf ds p).1]) (ps ++ [(p : Int)])) →
      l ++ [((mk35 (kept x (dtOf ds p).1) (-1) (-1), ((p : Int), ((-1), ()))) : NodeI)] = build (ds ++ [kept x (dtOf ds p).1]) (ps ++ [(p : Int)]) := by
    rintro l rfl
    rw [build, List.length_append, List.length_singleton]
    exact range_snoc _ _ _ _ (fun _ _ => rfl) (node_last h (by omega)).symm
  simp only [F11, e1, e2, e3, e4, e5, cond_false, cond_true, gp, e6, Bool.not_true]
  cases hlast : (K ps (p : Int) 0).getLast? with
  | none =>
    have hK : K ps (p : Int) 0 = [] := by simpa using hlast
    have e7 : ((node ds ps p).2.2.1 == (-1 : Int)) = true := by simp [node, hK, lastI]
    have e8 : (node ds ps p).1.1 = (dtOf ds p).1 := rfl
    simp only [e7, cond_true, F26_eq, List.length_set, List.length_append, List.length_singleton, build_length, room _ (show ps.length + 1 ≤ 1000 by omega), e8]
    refine congrArg (fun l => some ((l, ()), (ps.length : Int))) (final _ ?_)
    simp only [build, Int.toNat_natCast, range_set, getD_range _ hp, if_pos rfl, if_true]
    refine List.map_congr_left fun j hj => ?_
    have hj := List.mem_range.1 hj
    rw [node_snoc h.len hj]
    have hno : parOf ps j ≠ (p : Int) := fun e => by
      have : j ∈ K ps (p : Int) 0 := mem_K'.2 ⟨Nat.zero_le _, by rw [parOf_lt hj, e]⟩
      rw [hK] at this; cases this
    by_cases hjp : j = p
    · subst hjp
      simp [hK, Ne.symm hno, node, mk35, hd, lastI]
      intro h0; simp [h0]
    · have hne : ¬ ((p : Int) = (j : Int)) := by omega
      simp only [if_neg hjp, if_neg hne, if_neg (Ne.symm hno), node, mk35, hd_if]
  | some l =>
    obtain ⟨_, hl1, hl2⟩ := last_K rfl hlast
    have hlt : l < ps.length := (List.getElem?_eq_some_iff.1 hl1).1
    have hpl : p ≠ l := by
      rcases h.par _ _ hl1 with ⟨_, h2⟩ | ⟨_, h2⟩ <;> omega
    have hKp : K ps (p : Int) 0 ≠ [] := by intro e; rw [e] at hlast; cases hlast
    have hparl : parOf ps l = (p : Int) := by
      have := parOf_lt hlt
      rw [hl1] at this
      exact (Option.some.inj this).symm
    have e7 : ((l : Int) == (-1 : Int)) = false := by simp
    have e9 : (node ds ps p).2.2.1 = (l : Int) := by simp only [node, lastI, hlast]
    have e8 : (node ds ps p).1.1 = (dtOf ds p).1 := rfl
    have e10 : inB (l : Int) ps.length = true := by simp [inB]; omega
    have gl : ∀ d, (build ds ps).getD (Int.toNat (l : Int)) d = node ds ps l := fun d => by rw [Int.toNat_natCast]; exact build_getD hlt d
    simp only [e7, e9, e10, gl, cond_true, cond_false, F26_eq, List.length_set, List.length_append, List.length_singleton, build_length, room _ (show ps.length + 1 ≤ 1000 by omega), e8]
    refine congrArg (fun l => some ((l, ()), (ps.length : Int))) (final _ ?_)
    simp only [build, Int.toNat_natCast, range_set, getD_range _ hp, if_neg hpl]
    refine List.map_congr_left fun j hj => ?_
    have hj := List.mem_range.1 hj
    rw [node_snoc h.len hj]
    have huniq : K ps (parOf ps j) (j + 1) = [] → (p : Int) = parOf ps j → j = l := by
      intro h1 h2
      rcases Nat.lt_trichotomy j l with h3 | h3 | h3
      · have : l ∈ K ps (parOf ps j) (j + 1) := mem_K'.2 ⟨h3, by rw [← h2]; exact hl1⟩
        rw [h1] at this; cases this
      · exact h3
      · have : j ∈ K ps (p : Int) (l + 1) := mem_K'.2 ⟨h3, by rw [h2]; exact parOf_lt hj⟩
        rw [hl2] at this; cases this
    have hnext : j ≠ l → (if K ps (parOf ps j) (j + 1) = [] then (if (p : Int) = parOf ps j then (ps.length : Int) else -1) else hd (K ps (parOf ps j) (j + 1))) = hd (K ps (parOf ps j) (j + 1)) := by
      intro hne
      split
      · rename_i h1
        rw [if_neg (fun e => hne (huniq h1 e)), h1]
        rfl
      · rfl
    by_cases hjp : j = p
    · subst hjp
      rw [hnext hpl]
      simp only [if_pos rfl, if_neg hKp, node, mk35, if_true]
    · have hne : ¬ ((p : Int) = (j : Int)) := by omega
      by_cases hjl : j = l
      · subst hjl
        simp only [if_neg hjp, if_neg hne, if_pos rfl, if_true, hparl, hl2, hd_if, node, mk35]
      · rw [hnext hjl]
        simp only [if_neg hjp, if_neg hne, if_neg hjl, hd_if, node, mk35]

/-! ### The document's arena -/

abbrev RefA := List NI × List Int × List Int × Unit

/-- The same arena, as the document holds it. -/
def rbuild (ds : List Dt) (ps : List Int) : RefA := ((List.range ps.length).map fun i => (node ds ps i).1, ps, (List.range ps.length).map fun i => (node ds ps i).2.2.1, ())

theorem room72 (m : Nat) (h : m ≤ 1000) : (decide (m * 72 ≤ maxRoom) && decide (m ≤ maxRoom)) = true := by
  rw [Bool.and_eq_true, decide_eq_true_eq, decide_eq_true_eq]
  unfold maxRoom
  omega
theorem room8 (m : Nat) (h : m ≤ 1000) : (decide (m * 8 ≤ maxRoom) && decide (m ≤ maxRoom)) = true := by
  rw [Bool.and_eq_true, decide_eq_true_eq, decide_eq_true_eq]
  unfold maxRoom
  omega

theorem F12j3_eq {ds : List Dt} {ps : List Int} (n : Nat) (h : Ok ds ps) (hl : ps.length < 200) {p : Int} (hp : p < (ps.length : Int)) (d : Dt) (ns : List NI) (ls : List Int)
    (hn : ns = (List.range ps.length).map fun i => (node (ds ++ [d]) (ps ++ [p]) i).1) (hls : ls = (List.range ps.length).map fun i => (node (ds ++ [d]) (ps ++ [p]) i).2.2.1) :
    F12j3 n p (ps.length : Int) d.1 d.2.1 d.2.2.1 d.2.2.2.1 d.2.2.2.2 (-1) (-1) ns ps ls = some (rbuild (ds ++ [d]) (ps ++ [p]), (ps.length : Int)) := by
  have hlast := node_last (d := d) h hp
  unfold F12j3
  have l1 : ns.length = ps.length := by rw [hn]; simp
  have l2 : ls.length = ps.length := by rw [hls]; simp
  simp only [List.length_singleton, l1, l2, room72 _ (show ps.length + 1 ≤ 1000 by omega), room8 _ (show ps.length + 1 ≤ 1000 by omega), cond_true]
  refine congrArg some (Prod.ext (Prod.ext ?_ (Prod.ext rfl (Prod.ext ?_ rfl))) rfl)
  · rw [hn]
    show _ ++ _ = (List.range (ps ++ [p]).length).map _
    rw [List.length_append, List.length_singleton]
    exact range_snoc _ _ _ _ (fun _ _ => rfl) (by rw [hlast]; rfl)
  · rw [hls]
    show _ ++ _ = (List.range (ps ++ [p]).length).map _
    rw [List.length_append, List.length_singleton]
    exact range_snoc _ _ _ _ (fun _ _ => rfl) (by rw [hlast])

theorem F12j1_eq (n : Nat) (p : Nat) (x : NI) (a : Int) (b : Int) (ns : List NI) (ps ls : List Int) (hp : p < ns.length) (q : NI) (hq : ∀ d, ns.getD p d = q) :
    F12j1 n (p : Int) x.1 x.2.1 x.2.2.1 x.2.2.2.1 x.2.2.2.2.1 a b ns ps ls = F12j4 n (p : Int) (ns.length : Int) (kept x q.1).1 (kept x q.1).2.1 (kept x q.1).2.2.1 (kept x q.1).2.2.2.1 (kept x q.1).2.2.2.2 (-1) (-1) ns ps ls := by
  have e1 : decide ((p : Int) ≥ 0) = true := by simp
  have e2 : inB (p : Int) ns.length = true := by simp [inB]; omega
  unfold F12j1 F12j2 kept
  simp only [e1, e2, Int.toNat_natCast, hq, cond_true]
  by_cases h2 : x.1 = 2
  · by_cases h6 : q.1 = 6 <;> simp [cond_eq_ite, h2, h6]
  · by_cases h3 : x.1 = 3
    · by_cases h6 : q.1 = 6 <;> simp [cond_eq_ite, h3, h6]
    · by_cases h4 : x.1 = 4 <;> by_cases h6 : q.1 = 6 <;> simp [cond_eq_ite, h2, h3, h4, h6]

theorem F12_add {ds : List Dt} {ps : List Int} (n : Nat) (h : Ok ds ps) (hl : ps.length < 200) {p : Nat} (hp : p < ps.length) {x : NI} (hk : 1 ≤ x.1 ∧ x.1 ≤ 6) (ho : (dtOf ds p).1 = 5 ∨ (dtOf ds p).1 = 6) :
    F12 n (rbuild ds ps) (p : Int) x = some (rbuild (ds ++ [kept x (dtOf ds p).1]) (ps ++ [(p : Int)]), (ps.length : Int)) := by
  have hpp : (p : Int) < (ps.length : Int) := by omega
  have e0 : (rbuild ds ps).1.length = ps.length := by simp [rbuild]
  have e1 : ((p : Int) == (-1)) = false := by simp
  have e2 : decide ((p : Int) < -1) = false := decide_eq_false (by omega)
  have e3 : decide ((p : Int) ≥ (ps.length : Int)) = false := decide_eq_false (by omega)
  have e4 : decide (x.1 < 1) = false := decide_eq_false (by omega)
  have e5 : decide (x.1 > 6) = false := decide_eq_false (by omega)
  have e6 : inB (p : Int) ps.length = true := by simp [inB]; omega
  have e7 : decide ((p : Int) ≥ 0) = true := by simp
  have gp : ∀ d, (rbuild ds ps).1.getD p d = (node ds ps p).1 := fun d => getD_range _ hp d
  have gl : ∀ d, (rbuild ds ps).2.2.1.getD p d = (node ds ps p).2.2.1 := fun d => getD_range _ hp d
  have ll : (rbuild ds ps).2.2.1.length = ps.length := by simp [rbuild]
  have hj1 := F12j1_eq n p x x.2.2.2.2.2.1 x.2.2.2.2.2.2.1 (rbuild ds ps).1 (rbuild ds ps).2.1 (rbuild ds ps).2.2.1 (by rw [e0]; exact hp) _ gp
  rw [e0] at hj1
  have step : F12 n (rbuild ds ps) (p : Int) x = F12j4 n (p : Int) (ps.length : Int) (kept x (dtOf ds p).1).1 (kept x (dtOf ds p).1).2.1 (kept x (dtOf ds p).1).2.2.1 (kept x (dtOf ds p).1).2.2.2.1 (kept x (dtOf ds p).1).2.2.2.2 (-1) (-1) (rbuild ds ps).1 (rbuild ds ps).2.1 (rbuild ds ps).2.2.1 := by
    have e8 : (node ds ps p).1.1 = (dtOf ds p).1 := rfl
    unfold F12 F12j0
    simp only [e0, e1, e2, e3, e4, e5, e6, e7, Int.toNat_natCast, gp, cond_true, cond_false, e8]
    rw [e8] at hj1
    rcases ho with ho | ho
    · rw [ho] at hj1 ⊢; exact hj1
    · rw [ho] at hj1 ⊢; exact hj1
  rw [step]
  unfold F12j4
  simp only [e0, e6, Int.toNat_natCast, gp, cond_true, ll, gl]
  have e9 : (node ds ps p).1.2.2.2.2.2.1 = hd (K ps (p : Int) 0) := rfl
  rw [e9]
  cases hlast : (K ps (p : Int) 0).getLast? with
  | none =>
    have hK : K ps (p : Int) 0 = [] := by simpa using hlast
    have e10 : decide (hd (K ps (p : Int) 0) < 0) = true := by rw [hK]; rfl
    simp only [e10, cond_true]
    refine F12j3_eq n h hl hpp _ _ _ ?_ ?_
    · simp only [rbuild, range_set]
      refine List.map_congr_left fun j hj => ?_
      have hj := List.mem_range.1 hj
      rw [node_snoc h.len hj]
      have hno : parOf ps j ≠ (p : Int) := fun e => by
        have : j ∈ K ps (p : Int) 0 := mem_K'.2 ⟨Nat.zero_le _, by rw [parOf_lt hj, e]⟩
        rw [hK] at this; cases this
      by_cases hjp : j = p
      · subst hjp
        simp [hK, Ne.symm hno, node, mk35, hd]
        intro h0; simp [h0]
      · have hne : ¬ ((p : Int) = (j : Int)) := by omega
        simp only [if_neg hjp, if_neg hne, if_neg (Ne.symm hno), node, mk35, hd_if]
    · simp only [rbuild, range_set]
      refine List.map_congr_left fun j hj => ?_
      have hj := List.mem_range.1 hj
      rw [node_snoc h.len hj]
      by_cases hjp : j = p
      · subst hjp; simp
      · have hne : ¬ ((p : Int) = (j : Int)) := by omega
        simp only [if_neg hjp, if_neg hne, node]
  | some l =>
    obtain ⟨_, hl1, hl2⟩ := last_K rfl hlast
    have hlt : l < ps.length := (List.getElem?_eq_some_iff.1 hl1).1
    have hpl : p ≠ l := by
      rcases h.par _ _ hl1 with ⟨_, h2⟩ | ⟨_, h2⟩ <;> omega
    have hKp : K ps (p : Int) 0 ≠ [] := by intro e; rw [e] at hlast; cases hlast
    have e10 : decide (hd (K ps (p : Int) 0) < 0) = false := by
      cases hk : K ps (p : Int) 0 with
      | nil => exact absurd hk hKp
      | cons a r => exact decide_eq_false (show ¬ ((a : Int) < 0) by omega)
    have e11 : (node ds ps p).2.2.1 = (l : Int) := by simp only [node, lastI, hlast]
    have e12 : inB (l : Int) ps.length = true := by simp [inB]; omega
    have gll : ∀ d, (rbuild ds ps).1.getD l d = (node ds ps l).1 := fun d => getD_range _ hlt d
    have hparl : parOf ps l = (p : Int) := by
      have := parOf_lt hlt
      rw [hl1] at this
      exact (Option.some.inj this).symm
    simp only [e10, e11, e12, cond_true, cond_false, Int.toNat_natCast, gll]
    refine F12j3_eq n h hl hpp _ _ _ ?_ ?_
    · simp only [rbuild, range_set]
      refine List.map_congr_left fun j hj => ?_
      have hj := List.mem_range.1 hj
      rw [node_snoc h.len hj]
      have huniq : K ps (parOf ps j) (j + 1) = [] → (p : Int) = parOf ps j → j = l := by
        intro h1 h2
        rcases Nat.lt_trichotomy j l with h3 | h3 | h3
        · have : l ∈ K ps (parOf ps j) (j + 1) := mem_K'.2 ⟨h3, by rw [← h2]; exact hl1⟩
          rw [h1] at this; cases this
        · exact h3
        · have : j ∈ K ps (p : Int) (l + 1) := mem_K'.2 ⟨h3, by rw [h2]; exact parOf_lt hj⟩
          rw [hl2] at this; cases this
      have hfirst : (if K ps (j : Int) 0 = [] then (if (p : Int) = (j : Int) then (ps.length : Int) else -1) else hd (K ps (j : Int) 0)) = hd (K ps (j : Int) 0) := by
        by_cases hjp : j = p
        · subst hjp; rw [if_neg hKp]
        · rw [if_neg (show ¬ ((p : Int) = (j : Int)) by omega), hd_if]
      rw [hfirst]
      by_cases hjl : j = l
      · subst hjl
        simp only [if_pos rfl, if_true, hparl, hl2, node, mk35]
      · have hnext : (if K ps (parOf ps j) (j + 1) = [] then (if (p : Int) = parOf ps j then (ps.length : Int) else -1) else hd (K ps (parOf ps j) (j + 1))) = hd (K ps (parOf ps j) (j + 1)) := by
          split
          · rename_i h1
            rw [if_neg (fun e => hjl (huniq h1 e)), h1]
            rfl
          · rfl
        rw [hnext]
        simp only [if_neg hjl, node, mk35]
    · simp only [rbuild, range_set]
      refine List.map_congr_left fun j hj => ?_
      have hj := List.mem_range.1 hj
      rw [node_snoc h.len hj]
      by_cases hjp : j = p
      · subst hjp; simp
      · have hne : ¬ ((p : Int) = (j : Int)) := by omega
        simp only [if_neg hjp, if_neg hne, node]
end Go.Proofs.Ytoonknmckeggaaa.Ab.Ar
