/- What is told of an arena: by the program's functions and by the document's. -/
import Derived.Test.YtoonknmckeggaaaAR
namespace Go.Proofs.Ytoonknmckeggaaa.Ab.Ar
open Go Go.RowKit
set_option maxRecDepth 100000
set_option linter.unusedVariables false
set_option linter.unusedSimpArgs false

abbrev A1 (ds : List Dt) (ps : List Int) : Option (List NodeI × Unit) := some (build ds ps, ())
abbrev A2 (ds : List Dt) (ps : List Int) : Option RefA := some (rbuild ds ps)

section
variable {ds : List Dt} {ps : List Int}

theorem F24_in (n : Nat) {i : Nat} (h : i < ps.length) : F24 n (A1 ds ps) (i : Int) = some (some (node ds ps i)) := by
  have e1 : decide ((i : Int) < 0) = false := decide_eq_false (by omega)
  have e2 : decide ((i : Int) ≥ (ps.length : Int)) = false := decide_eq_false (by omega)
  have e3 : inB (i : Int) ps.length = true := by simp [inB]; omega
  have g : ∀ d, (build ds ps).getD (Int.toNat (i : Int)) d = node ds ps i := fun d => by rw [Int.toNat_natCast]; exact build_getD h d
  unfold F24
  simp only [A1, Option.isSome_some, Option.getD_some, build_length, e1, e2, e3, g, cond_true, cond_false]

theorem F24_out (n : Nat) {i : Int} (h : ¬ (0 ≤ i ∧ i < (ps.length : Int))) : F24 n (A1 ds ps) i = some none := by
  unfold F24
  by_cases h1 : i < 0
  · rw [decide_eq_true h1]; rfl
  · rw [decide_eq_false h1]
    have e2 : decide (i ≥ (ps.length : Int)) = true := decide_eq_true (by omega)
    simp only [A1, Option.isSome_some, Option.getD_some, build_length, e2, cond_true, cond_false]

theorem F31_in (n : Nat) {i : Nat} (h : i < ps.length) : F31 n (A2 ds ps) (i : Int) = some true := by
  have e1 : decide ((i : Int) ≥ 0) = true := by simp
  have e2 : decide ((i : Int) < (ps.length : Int)) = true := decide_eq_true (by omega)
  have e0 : (rbuild ds ps).1.length = ps.length := by simp [rbuild]
  unfold F31
  simp only [A2, Option.isSome_some, Option.getD_some, e0, e1, e2, cond_true]

theorem F31_out (n : Nat) {i : Int} (h : ¬ (0 ≤ i ∧ i < (ps.length : Int))) : F31 n (A2 ds ps) i = some false := by
  have e0 : (rbuild ds ps).1.length = ps.length := by simp [rbuild]
  unfold F31
  by_cases h1 : i ≥ 0
  · have e2 : decide (i < (ps.length : Int)) = false := decide_eq_false (by omega)
    simp only [A2, Option.isSome_some, Option.getD_some, e0, decide_eq_true h1, e2, cond_true]
  · rw [decide_eq_false h1]; rfl

theorem rl1 : (rbuild ds ps).1.length = ps.length := by simp [rbuild]
theorem rl2 : (rbuild ds ps).2.1.length = ps.length := rfl
theorem rg1 {i : Nat} (h : i < ps.length) (d : NI) : (rbuild ds ps).1.getD i d = (node ds ps i).1 := getD_range _ h d
theorem rg2 {i : Nat} (h : i < ps.length) (d : Int) : (rbuild ds ps).2.1.getD i d = parOf ps i := by
  show ps.getD i d = ps.getD i (-1)
  simp [List.getD, List.getElem?_eq_getElem h]
theorem inB_nat {i m : Nat} (h : i < m) : inB (i : Int) m = true := by simp [inB]; omega

def d0 : NI := (0, false, 0, [], [], 0, 0, ())

theorem node_in (n : Nat) {i : Nat} (h : i < ps.length) : F19 n (A1 ds ps) (i : Int) = some ((node ds ps i).1, true) ∧ F17 n (A2 ds ps) (i : Int) = some ((node ds ps i).1, true) := by
  constructor
  · unfold F19
    rw [F24_in n h]
    rfl
  · unfold F17
    rw [F31_in n h]
    simp only [A2, Option.isSome_some, Option.getD_some, Bool.not_true, cond_false, cond_true, rl1, inB_nat h, Int.toNat_natCast, rg1 h]
theorem node_out (n : Nat) {i : Int} (h : ¬ (0 ≤ i ∧ i < (ps.length : Int))) : F19 n (A1 ds ps) i = some (d0, false) ∧ F17 n (A2 ds ps) i = some (d0, false) := by
  constructor
  · unfold F19; rw [F24_out n h]; rfl
  · unfold F17; rw [F31_out n h]; rfl

theorem par_in (n : Nat) {i : Nat} (h : i < ps.length) : F21 n (A1 ds ps) (i : Int) = some (parOf ps i) ∧ F18 n (A2 ds ps) (i : Int) = some (parOf ps i) := by
  constructor
  · unfold F21; rw [F24_in n h]; rfl
  · unfold F18
    rw [F31_in n h]
    simp only [A2, Option.isSome_some, Option.getD_some, Bool.not_true, cond_false, cond_true, rl2, inB_nat h, Int.toNat_natCast, rg2 h]
theorem par_out (n : Nat) {i : Int} (h : ¬ (0 ≤ i ∧ i < (ps.length : Int))) : F21 n (A1 ds ps) i = some (-1) ∧ F18 n (A2 ds ps) i = some (-1) := by
  constructor
  · unfold F21; rw [F24_out n h]; rfl
  · unfold F18; rw [F31_out n h]; rfl

theorem len_eq (n : Nat) : F13 n (A1 ds ps) = some (ps.length : Int) := by
  unfold F13
  simp only [A1, Option.isSome_some, Option.getD_some, cond_true, build_length]

/-! ### Depth -/

theorem kind_of (h : Ok ds ps) {i : Nat} (hi : i < ps.length) : 1 ≤ (dtOf ds i).1 ∧ (dtOf ds i).1 ≤ 6 := by
  have : ds[i]? = some (dtOf ds i) := by
    unfold dtOf; rw [List.getD_eq_getElem?_getD, List.getElem?_eq_getElem (by rw [h.len]; exact hi)]; rfl
  exact h.kind i _ this

theorem parOf_range (h : Ok ds ps) {i : Nat} (hi : i < ps.length) : (i = 0 ∧ parOf ps i = -1) ∨ ∃ q : Nat, parOf ps i = (q : Int) ∧ q < i := by
  rcases h.par i _ (parOf_lt hi) with h1 | ⟨h1, h2⟩
  · exact .inl h1
  · exact .inr ⟨(parOf ps i).toNat, by omega, by omega⟩

/-- How many open ones there are on the way up. -/
def depF (ds : List Dt) (ps : List Int) : Nat → Nat → Int → Int
  | 0, _, c => c
  | m + 1, i, c =>
    let c' := if (dtOf ds i).1 = 5 ∨ (dtOf ds i).1 = 6 then IntKind.wrap .i64 (c + 1) else c
    if parOf ps i < 0 then c' else depF ds ps m (parOf ps i).toNat c'

theorem depth_both (h : Ok ds ps) (n : Nat) : ∀ (i : Nat), i < ps.length → ∀ (m : Nat) (c : Int), i + 2 ≤ m →
    F22l0 n m (A1 ds ps) c (some (node ds ps i)) = some (depF ds ps (i + 1) i c) ∧ F27l0 n m (A2 ds ps) (i : Int) c = some (depF ds ps (i + 1) i c) := by
  intro i
  induction i using Nat.strongRecOn with
  | ind i ih =>
    intro hi m c hm
    obtain ⟨m, rfl⟩ : ∃ k, m = k + 1 := ⟨m - 1, by omega⟩
    have hk := kind_of h hi
    have key : ∀ c' : Int, (∃ r, r = (if parOf ps i < 0 then c' else depF ds ps i (parOf ps i).toNat c') ∧
        (match F24 n (A1 ds ps) (parOf ps i) with | some x => F22l0 n m (A1 ds ps) c' x | none => none) = some r ∧ F27l0 n m (A2 ds ps) (parOf ps i) c' = some r) := by
      intro c'
      refine ⟨_, rfl, ?_⟩
      rcases parOf_range h hi with ⟨rfl, h1⟩ | ⟨q, h1, h2⟩
      · rw [h1, F24_out n (by omega)]
        obtain ⟨m, rfl⟩ : ∃ k, m = k + 1 := ⟨m - 1, by omega⟩
        constructor
        · rfl
        · show F27l0F n _ _ _ _ = _
          unfold F27l0F
          rw [F31_out n (by omega)]
          rfl
      · rw [h1, F24_in n (by omega), if_neg (by omega), Int.toNat_natCast]
        have := ih q h2 (by omega) m c' (by omega)
        obtain ⟨j, rfl⟩ : ∃ j, i = j + 1 := ⟨i - 1, by omega⟩
        have stab : ∀ (a b i : Nat) (c : Int), i < a → i < b → i < ps.length → depF ds ps a i c = depF ds ps b i c := by
          intro a
          induction a with
          | zero => intro b i c h1; omega
          | succ a iha =>
            intro b i c h1 h2 h3
            obtain ⟨b, rfl⟩ : ∃ k, b = k + 1 := ⟨b - 1, by omega⟩
            simp only [depF]
            split
            · rfl
            · rename_i hneg
              rcases parOf_range h h3 with ⟨_, h4⟩ | ⟨q', h4, h5⟩
              · omega
              · rw [h4, Int.toNat_natCast]
                exact iha b q' _ (by omega) (by omega) (by omega)
        rw [stab (j + 1) (q + 1) q c' (by omega) (by omega) (by omega)]
        exact this
    have e25 : F25 n (node ds ps i).1.1 = some (decide ((dtOf ds i).1 = 5 ∨ (dtOf ds i).1 = 6)) := by
      show F25 n (dtOf ds i).1 = _
      unfold F25
      by_cases h5 : (dtOf ds i).1 = 5
      · simp [h5]
      · simp [h5, cond_eq_ite]
        rfl
    have e27 : decide ((node ds ps i).1.1 ≥ 5) = decide ((dtOf ds i).1 = 5 ∨ (dtOf ds i).1 = 6) := by
      show decide ((dtOf ds i).1 ≥ 5) = _
      exact decide_eq_decide.2 (by omega)
    have hp : (node ds ps i).2.1 = parOf ps i := rfl
    have rhs : depF ds ps (i + 1) i c = (if parOf ps i < 0 then (if (dtOf ds i).1 = 5 ∨ (dtOf ds i).1 = 6 then IntKind.wrap .i64 (c + 1) else c) else depF ds ps i (parOf ps i).toNat (if (dtOf ds i).1 = 5 ∨ (dtOf ds i).1 = 6 then IntKind.wrap .i64 (c + 1) else c)) := rfl
    rw [rhs]
    by_cases ho : (dtOf ds i).1 = 5 ∨ (dtOf ds i).1 = 6
    · obtain ⟨r, e, h1, h2⟩ := key (IntKind.wrap .i64 (c + 1))
      rw [if_pos ho, ← e]
      constructor
      · show F22l0F n _ _ _ _ = _
        unfold F22l0F
        simp only [Option.isNone_some, Option.isSome_some, Option.getD_some, Bool.not_false, cond_true, e25, decide_eq_true ho, hp]
        exact h1
      · show F27l0F n _ _ _ _ = _
        unfold F27l0F
        rw [F31_in n hi]
        simp only [A2, Option.isSome_some, Option.getD_some, cond_true, rl1, rl2, inB_nat hi, Int.toNat_natCast, rg1 hi, rg2 hi, e27, decide_eq_true ho]
        exact h2
    · obtain ⟨r, e, h1, h2⟩ := key c
      rw [if_neg ho, ← e]
      constructor
      · show F22l0F n _ _ _ _ = _
        unfold F22l0F
        simp only [Option.isNone_some, Option.isSome_some, Option.getD_some, Bool.not_false, cond_true, cond_false, e25, decide_eq_false ho, hp]
        exact h1
      · show F27l0F n _ _ _ _ = _
        unfold F27l0F
        rw [F31_in n hi]
        simp only [A2, Option.isSome_some, Option.getD_some, cond_true, cond_false, rl1, rl2, inB_nat hi, Int.toNat_natCast, rg1 hi, rg2 hi, e27, decide_eq_false ho]
        exact h2

theorem depth_in (h : Ok ds ps) (n : Nat) (hn : 1000 ≤ n) {i : Nat} (hi : i < ps.length) : F22 n (A1 ds ps) (i : Int) = some (depF ds ps (i + 1) i 0) ∧ F27 n (A2 ds ps) (i : Int) = some (depF ds ps (i + 1) i 0) := by
  have := h.le
  obtain ⟨h1, h2⟩ := depth_both h n i hi n 0 (by omega)
  refine ⟨?_, h2⟩
  unfold F22
  rw [F24_in n hi]
  exact h1
theorem depth_out (n : Nat) (hn : 1000 ≤ n) {i : Int} (h : ¬ (0 ≤ i ∧ i < (ps.length : Int))) : F22 n (A1 ds ps) i = some 0 ∧ F27 n (A2 ds ps) i = some 0 := by
  obtain ⟨m, rfl⟩ : ∃ m, n = m + 1 := ⟨n - 1, by omega⟩
  constructor
  · unfold F22; rw [F24_out _ h]; rfl
  · unfold F27
    show F27l0F _ _ _ _ _ = _
    unfold F27l0F
    rw [F31_out _ h]
    rfl

/-! ### Kids -/

theorem K_cons {ps : List Int} {q : Int} : ∀ {m a : Nat}, ps.length - a = m → ∀ {j : Nat} {r : List Nat}, K ps q a = j :: r → a ≤ j ∧ ps[j]? = some q ∧ r = K ps q (j + 1)
  | 0, a, h, j, r, e => by rw [K_ge (by omega)] at e; cases e
  | m + 1, a, h, j, r, e => by
    have ha : a < ps.length := by omega
    rw [K_step ha] at e
    split at e
    · rename_i e2
      cases e
      exact ⟨Nat.le_refl _, by rw [List.getElem?_eq_getElem ha, e2], rfl⟩
    · obtain ⟨h1, h2⟩ := K_cons (m := m) (by omega) e
      exact ⟨by omega, h2⟩

theorem K_len {ps : List Int} {q : Int} : ∀ {m a : Nat}, ps.length - a = m → (K ps q a).length ≤ m
  | 0, a, h => by rw [K_ge (by omega)]; simp
  | m + 1, a, h => by
    rw [K_step (by omega)]
    have := K_len (ps := ps) (q := q) (m := m) (a := a + 1) (by omega)
    split <;> simp <;> omega

abbrev ints (l : List Nat) : List Int := l.map fun (j : Nat) => (j : Int)

theorem node_next {j : Nat} {q : Int} (hj : ps[j]? = some q) : (node ds ps j).1.2.2.2.2.2.2.1 = hd (K ps q (j + 1)) := by
  have hlt := (List.getElem?_eq_some_iff.1 hj).1
  have : parOf ps j = q := by have := parOf_lt hlt; rw [hj] at this; exact (Option.some.inj this).symm
  show hd (K ps (parOf ps j) (j + 1)) = _
  rw [this]

theorem kidsL_eq {q : Int} : ∀ (l : List Nat) (a : Nat), K ps q a = l → ∀ m, l.length + 1 ≤ m → kidsL (build ds ps) m (hd l) = some (ints l)
  | [], a, e, m, hm => by
    obtain ⟨m, rfl⟩ : ∃ k, m = k + 1 := ⟨m - 1, by omega⟩
    rfl
  | j :: r, a, e, m, hm => by
    simp only [List.length_cons] at hm
    obtain ⟨m, rfl⟩ : ∃ k, m = k + 1 := ⟨m - 1, by omega⟩
    obtain ⟨_, h1, h2⟩ := K_cons rfl e
    have hlt := (List.getElem?_eq_some_iff.1 h1).1
    have e1 : ((j : Int) == -1) = false := by simp
    have e2 : (decide ((0 : Int) ≤ (j : Int)) && decide ((j : Int) < ((build ds ps).length : Int))) = true := by simp; omega
    have e3 : NodeI.next ((build ds ps).getD (Int.toNat (j : Int)) (Ty.dflt NodeT)) = hd r := by
      rw [Int.toNat_natCast, build_getD hlt]
      rw [h2]
      exact node_next h1
    show kidsL _ (m + 1) (j : Int) = _
    simp only [kidsL, e1, e2, e3, cond_true, cond_false]
    rw [kidsL_eq r (j + 1) h2.symm m (by omega)]
    rfl

theorem kidsOf_in (n : Nat) (h : Ok ds ps) (hn : 1000 ≤ n) {i : Nat} (hi : i < ps.length) : kidsOf n (A1 ds ps) (i : Int) = some (ints (K ps (i : Int) 0)) := by
  have e2 : (decide ((0 : Int) ≤ (i : Int)) && decide ((i : Int) < ((build ds ps).length : Int))) = true := by simp; omega
  have := K_len (ps := ps) (q := (i : Int)) (a := 0) rfl
  have hle := h.le
  have e3 : NodeI.first ((build ds ps).getD (Int.toNat (i : Int)) (Ty.dflt NodeT)) = hd (K ps (i : Int) 0) := by
    rw [Int.toNat_natCast, build_getD hi]
    rfl
  simp only [kidsOf, A1, e2, e3, cond_true]
  exact kidsL_eq _ 0 rfl n (by omega)

theorem kids_in (n : Nat) (h : Ok ds ps) (hn : 1000 ≤ n) {i : Nat} (hi : i < ps.length) : F20 n (A1 ds ps) (i : Int) = some (ints (K ps (i : Int) 0)) := by
  have := K_len (ps := ps) (q := (i : Int)) (a := 0) rfl
  have hle := h.le
  simp only [F20, kidsOf_in n h hn hi]
  rw [decide_eq_true (by simp; omega)]
  rfl
theorem kids_out (n : Nat) {i : Int} (h : ¬ (0 ≤ i ∧ i < (ps.length : Int))) : F20 n (A1 ds ps) i = some [] := by
  have e2 : (decide (0 ≤ i) && decide (i < ((build ds ps).length : Int))) = false := by
    rw [build_length, ← Bool.decide_and]
    exact decide_eq_false h
  simp only [F20, kidsOf, A1, e2, cond_false]
  rfl

theorem kids29_loop (n : Nat) {q : Int} : ∀ (l : List Nat) (a : Nat), K ps q a = l → ∀ (m : Nat) (acc : List Int), l.length + 1 ≤ m → acc.length + l.length ≤ 1000 → F29l0 n m (A2 ds ps) acc (hd l) = some (acc ++ ints l)
  | [], a, e, m, acc, hm, hacc => by
    obtain ⟨m, rfl⟩ : ∃ k, m = k + 1 := ⟨m - 1, by omega⟩
    show F29l0F n _ _ _ _ = _
    unfold F29l0F
    simp [hd]
  | j :: r, a, e, m, acc, hm, hacc => by
    simp only [List.length_cons] at hm hacc
    obtain ⟨m, rfl⟩ : ∃ k, m = k + 1 := ⟨m - 1, by omega⟩
    obtain ⟨_, h1, h2⟩ := K_cons rfl e
    have hlt := (List.getElem?_eq_some_iff.1 h1).1
    have e1 : decide ((j : Int) ≥ 0) = true := by simp
    show F29l0F n _ _ _ (j : Int) = _
    unfold F29l0F
    simp only [A2, Option.isSome_some, Option.getD_some, List.length_singleton, e1, room8 _ (show acc.length + 1 ≤ 1000 by omega), cond_true, rl1, inB_nat hlt, Int.toNat_natCast, rg1 hlt, node_next h1]
    rw [← h2]
    have := kids29_loop n r (j + 1) h2.symm m (acc ++ [(j : Int)]) (by omega) (by simp; omega)
    rw [this]
    simp
theorem kids29_in (n : Nat) (h : Ok ds ps) (hn : 1000 ≤ n) {i : Nat} (hi : i < ps.length) : F29 n (A2 ds ps) (i : Int) = some (ints (K ps (i : Int) 0)) := by
  have := K_len (ps := ps) (q := (i : Int)) (a := 0) rfl
  have hle := h.le
  unfold F29
  rw [F31_in n hi]
  simp only [A2, Option.isSome_some, Option.getD_some, Bool.not_true, cond_false, cond_true, rl1, inB_nat hi, Int.toNat_natCast, rg1 hi]
  exact kids29_loop n _ 0 rfl n [] (by omega) (by simp; omega)
theorem kids29_out (n : Nat) {i : Int} (h : ¬ (0 ≤ i ∧ i < (ps.length : Int))) : F29 n (A2 ds ps) i = some [] := by
  unfold F29
  rw [F31_out n h]
  rfl

/-! ### Names -/

def findN (ds : List Dt) (ps : List Int) (name : List UInt8) (l : List Nat) : Int :=
  match (ints l).find? (hit (build ds ps) name) with
  | some k => k
  | none => -1

theorem find16_loop (n : Nat) (name : List UInt8) {q : Int} : ∀ (l : List Nat) (a : Nat), K ps q a = l → ∀ (m : Nat), l.length + 1 ≤ m → F16l0 n m (A2 ds ps) name (hd l) = some (findN ds ps name l)
  | [], a, e, m, hm => by
    obtain ⟨m, rfl⟩ : ∃ k, m = k + 1 := ⟨m - 1, by omega⟩
    show F16l0F n _ _ _ _ = _
    unfold F16l0F
    simp [hd, findN]
  | j :: r, a, e, m, hm => by
    simp only [List.length_cons] at hm
    obtain ⟨m, rfl⟩ : ∃ k, m = k + 1 := ⟨m - 1, by omega⟩
    obtain ⟨_, h1, h2⟩ := K_cons rfl e
    have hlt := (List.getElem?_eq_some_iff.1 h1).1
    have e1 : decide ((j : Int) ≥ 0) = true := by simp
    have eh : hit (build ds ps) name (j : Int) = ((node ds ps j).1.2.2.2.2.1 == name) := by
      unfold hit
      rw [Int.toNat_natCast, build_getD hlt]
      rfl
    show F16l0F n _ _ _ (j : Int) = _
    unfold F16l0F
    simp only [A2, Option.isSome_some, Option.getD_some, e1, cond_true, rl1, inB_nat hlt, Int.toNat_natCast, rg1 hlt, node_next h1]
    cases hb : ((node ds ps j).1.2.2.2.2.1 == name) with
    | true =>
      simp only [cond_true, findN, ints, List.map_cons, List.find?_cons, eh, hb]
    | false =>
      rw [hb] at eh
      simp only [cond_false]
      rw [← h2, find16_loop n name r (j + 1) h2.symm m (by omega)]
      simp only [findN, ints, List.map_cons, List.find?_cons, eh]

theorem find_in (n : Nat) (h : Ok ds ps) (hn : 1000 ≤ n) {i : Nat} (hi : i < ps.length) (name : List UInt8) :
    F15 n (A1 ds ps) (i : Int) name = some (if (dtOf ds i).1 = 6 then findN ds ps name (K ps (i : Int) 0) else -1) ∧
    F16 n (A2 ds ps) (i : Int) name = some (if (dtOf ds i).1 = 6 then findN ds ps name (K ps (i : Int) 0) else -1) := by
  have hle := h.le
  have hkl := K_len (ps := ps) (q := (i : Int)) (a := 0) rfl
  constructor
  · have e2 : (decide ((0 : Int) ≤ (i : Int)) && decide ((i : Int) < ((build ds ps).length : Int))) = true := by simp; omega
    have e4 : NodeI.kind ((build ds ps).getD (Int.toNat (i : Int)) (Ty.dflt NodeT)) = (dtOf ds i).1 := by
      rw [Int.toNat_natCast, build_getD hi]; rfl
    have e3 : NodeI.first ((build ds ps).getD (Int.toNat (i : Int)) (Ty.dflt NodeT)) = hd (K ps (i : Int) 0) := by
      rw [Int.toNat_natCast, build_getD hi]; rfl
    simp only [F15, A1, e2, e3, e4, cond_true]
    by_cases hk : (dtOf ds i).1 = 6
    · rw [if_pos hk]
      have : ((dtOf ds i).1 == 6) = true := by simpa using hk
      rw [this, kidsL_eq _ 0 rfl n (by omega)]
      rfl
    · rw [if_neg hk]
      have : ((dtOf ds i).1 == 6) = false := by simpa using hk
      rw [this]
      rfl
  · unfold F16
    rw [F31_in n hi]
    have e8 : (node ds ps i).1.1 = (dtOf ds i).1 := rfl
    simp only [A2, Option.isSome_some, Option.getD_some, Bool.not_true, cond_false, cond_true, rl1, inB_nat hi, Int.toNat_natCast, rg1 hi, e8]
    by_cases hk : (dtOf ds i).1 = 6
    · rw [if_pos hk]
      have : ((dtOf ds i).1 != 6) = false := by simpa using hk
      rw [this]
      exact find16_loop n name _ 0 rfl n (by omega)
    · rw [if_neg hk]
      have : ((dtOf ds i).1 != 6) = true := by simpa using hk
      rw [this]
      rfl
theorem find_out (n : Nat) {i : Int} (h : ¬ (0 ≤ i ∧ i < (ps.length : Int))) (name : List UInt8) : F15 n (A1 ds ps) i name = some (-1) ∧ F16 n (A2 ds ps) i name = some (-1) := by
  constructor
  · have e2 : (decide (0 ≤ i) && decide (i < ((build ds ps).length : Int))) = false := by
      rw [build_length, ← Bool.decide_and]
      exact decide_eq_false h
    simp only [F15, A1, e2, cond_false]
  · unfold F16; rw [F31_out n h]; rfl
end
end Go.Proofs.Ytoonknmckeggaaa.Ab.Ar
