/- The law ArenaPlays: its answer. -/
import Derived.Test.YtoonknmckeggaaaAU
namespace Go.Proofs.Ytoonknmckeggaaa.Ab.Ar
open Go Go.RowKit
set_option maxRecDepth 100000
set_option linter.unusedVariables false
set_option linter.unusedSimpArgs false

theorem awake9 : F9 1000 = some true := by kernel_rfl

theorem same_loop (n : Nat) (l : List Int) (hl : l.length ≤ 500) : ∀ (d i : Nat), l.length - i = d → i ≤ l.length → ∀ m, d + 1 ≤ m → F14l0 n m l l (i : Int) = some true
  | 0, i, hd, hi, m, hm => by
    obtain ⟨m, rfl⟩ : ∃ k, m = k + 1 := ⟨m - 1, by omega⟩
    show F14l0F n _ _ _ _ = _
    unfold F14l0F
    rw [decide_eq_false (by omega)]
    rfl
  | d + 1, i, hd, hi, m, hm => by
    obtain ⟨m, rfl⟩ : ∃ k, m = k + 1 := ⟨m - 1, by omega⟩
    show F14l0F n _ _ _ _ = _
    unfold F14l0F
    rw [decide_eq_true (show (i : Int) < (l.length : Int) by omega), inB_nat (show i < l.length by omega)]
    simp only [cond_true, bne_self_eq_false, cond_false]
    rw [wrap64 (by omega) (by omega)]
    exact same_loop n l hl d (i + 1) (by omega) (by omega) m (by omega)

section
variable {ds : List Dt} {ps : List Int}

theorem beq35 (x : NI) : Ty.beq (.pair (.int .i64) (.pair .bool (.pair (.int .i64) (.pair .str (.pair .str (.pair (.int .i64) (.pair (.int .i64) .unit))))))) x x = true := by
  simp [Ty.beq]

theorem same_true (h : Ok ds ps) (n : Nat) (hn : 1000 ≤ n) (i : Int) : F14 n (A1 ds ps) (A2 ds ps) i = some true := by
  have hle := h.le
  by_cases hi : 0 ≤ i ∧ i < (ps.length : Int)
  · obtain ⟨q, rfl⟩ : ∃ q : Nat, i = (q : Int) := ⟨i.toNat, by omega⟩
    have hq : q < ps.length := by omega
    have hkl := K_len (ps := ps) (q := (q : Int)) (a := 0) rfl
    unfold F14
    simp only [(node_in n hq).1, (node_in n hq).2, (par_in n hq).1, (par_in n hq).2, (depth_in h n hn hq).1, (depth_in h n hn hq).2, (size_both h n hn hq).1, (size_both h n hn hq).2, kids_in n h hn hq, kids29_in n h hn hq, beq35, bne_self_eq_false, Bool.not_true, cond_false, beq_self_eq_true]
    exact same_loop n _ (by simp; omega) _ 0 rfl (by omega) n (by simp; omega)
  · unfold F14
    simp only [(node_out n hi).1, (node_out n hi).2, (par_out n hi).1, (par_out n hi).2, (depth_out n hn hi).1, (depth_out n hn hi).2, (size_out n hn hi).1, (size_out n hn hi).2, kids_out n hi, kids29_out n hi, beq35, bne_self_eq_false, Bool.not_true, cond_false, beq_self_eq_true]
    exact same_loop n [] (by simp) 0 0 rfl (by simp) n (by omega)

theorem find_both (h : Ok ds ps) (n : Nat) (hn : 1000 ≤ n) (i : Int) (name : List UInt8) : ∃ r, F15 n (A1 ds ps) i name = some r ∧ F16 n (A2 ds ps) i name = some r := by
  by_cases hi : 0 ≤ i ∧ i < (ps.length : Int)
  · obtain ⟨q, rfl⟩ : ∃ q : Nat, i = (q : Int) := ⟨i.toNat, by omega⟩
    exact ⟨_, (find_in n h hn (by omega) name).1, (find_in n h hn (by omega) name).2⟩
  · exact ⟨_, (find_out n hi name).1, (find_out n hi name).2⟩

/-! ### The law -/

variable {n : Nat} (hn : 1000 ≤ n) (haw : F9 n = some true)

include hn in
theorem names_loop (h : Ok ds ps) (t1 : List (List UInt8)) (ht : t1.length ≤ 100) (i : Int)
    (rF3l1 : List (List UInt8) → Int → List NI → List Int → List Int → List NodeI → Option Bool) (hr : rF3l1 t1 (IntKind.wrap .i64 (i + 1)) (rbuild ds ps).1 (rbuild ds ps).2.1 (rbuild ds ps).2.2.1 (build ds ps) = some true) :
    ∀ (d j : Nat), t1.length - j = d → j ≤ t1.length → ∀ m, d + 1 ≤ m → F3l3 n rF3l1 m t1 i (j : Int) (rbuild ds ps).1 (rbuild ds ps).2.1 (rbuild ds ps).2.2.1 (build ds ps) = some true := by
  intro d
  induction d with
  | zero =>
    intro j hd hj m hm
    obtain ⟨m, rfl⟩ : ∃ k, m = k + 1 := ⟨m - 1, by omega⟩
    show F3l3F n _ _ _ _ _ _ _ _ _ = _
    unfold F3l3F
    rw [decide_eq_false (by omega)]
    simp only [cond_false]
    have e2 : (some ((rbuild ds ps).1, (rbuild ds ps).2.1, (rbuild ds ps).2.2.1, ()) : Option RefA) = A2 ds ps := rfl
    rw [e2]
    by_cases hi : 0 ≤ i ∧ i < (ps.length : Int)
    · obtain ⟨q, rfl⟩ : ∃ q : Nat, i = (q : Int) := ⟨i.toNat, by omega⟩
      have hq : q < ps.length := by omega
      obtain ⟨r, h1, h2⟩ := find_both h n hn (parOf ps q) (node ds ps q).1.2.2.2.2.1
      simp only [(node_in n hq).2, (par_in n hq).2, h1, h2, bne_self_eq_false, cond_true, cond_false]
      exact hr
    · simp only [(node_out n hi).2, cond_false]
      exact hr
  | succ d ih =>
    intro j hd hj m hm
    obtain ⟨m, rfl⟩ : ∃ k, m = k + 1 := ⟨m - 1, by omega⟩
    show F3l3F n _ _ _ _ _ _ _ _ _ = _
    unfold F3l3F
    have e2 : (some ((rbuild ds ps).1, (rbuild ds ps).2.1, (rbuild ds ps).2.2.1, ()) : Option RefA) = A2 ds ps := rfl
    obtain ⟨r, h1, h2⟩ := find_both h n hn i (t1.getD (Int.toNat (j : Int)) (Ty.dflt .str))
    rw [decide_eq_true (show (j : Int) < (t1.length : Int) by omega), inB_nat (show j < t1.length by omega), e2]
    simp only [cond_true, cond_false, h1, h2, bne_self_eq_false]
    rw [wrap64 (by omega) (by omega)]
    exact ih (j + 1) (by omega) (by omega) m (by omega)

include hn haw in
theorem nodes_loop (h : Ok ds ps) (t1 : List (List UInt8)) (ht : t1.length ≤ 100) :
    ∀ (d : Nat) (i : Int), (ps.length : Int) + 1 - i = d → ∀ m, d + 1 ≤ m → -2 ≤ i → F3l1 n m t1 i (rbuild ds ps).1 (rbuild ds ps).2.1 (rbuild ds ps).2.2.1 (build ds ps) = some true := by
  intro d
  have hle := h.le
  induction d with
  | zero =>
    intro i hd m hm hi
    obtain ⟨m, rfl⟩ : ∃ k, m = k + 1 := ⟨m - 1, by omega⟩
    show F3l1F n _ _ _ _ _ _ _ = _
    unfold F3l1F
    rw [rl1, decide_eq_false (by omega), haw]
    rfl
  | succ d ih =>
    intro i hd m hm hi
    obtain ⟨m, rfl⟩ : ∃ k, m = k + 1 := ⟨m - 1, by omega⟩
    show F3l1F n _ _ _ _ _ _ _ = _
    unfold F3l1F
    have e2 : (some ((rbuild ds ps).1, (rbuild ds ps).2.1, (rbuild ds ps).2.2.1, ()) : Option RefA) = A2 ds ps := rfl
    rw [rl1, decide_eq_true (by omega), e2, same_true h n hn i]
    simp only [cond_true, cond_false, Bool.not_true]
    refine names_loop hn h t1 ht i _ ?_ t1.length 0 rfl (by omega) n (by omega)
    rw [wrap64 (by omega) (by omega)]
    exact ih (i + 1) (by omega) m (by omega) (by omega)

abbrev Step := Int × NI × Unit

theorem few7 (t0 : List Step) : ∀ (d i : Nat), t0.length - i = d → ∀ m, 83 ≤ m + i → i ≤ 81 → i ≤ t0.length → ∃ b, F7l0 n m t0 (i : Int) = some b ∧ (b = true → t0.length ≤ 80) := by
  intro d
  induction d with
  | zero =>
    intro i hd m hm hi hle
    obtain ⟨m, rfl⟩ : ∃ k, m = k + 1 := ⟨m - 1, by omega⟩
    refine ⟨decide ((t0.length : Int) ≤ 80), ?_, ?_⟩
    · show F7l0F n _ _ _ = _
      unfold F7l0F
      rw [decide_eq_false (by omega)]
      rfl
    · intro h; have := of_decide_eq_true h; omega
  | succ d ih =>
    intro i hd m hm hi hle
    obtain ⟨m, rfl⟩ : ∃ k, m = k + 1 := ⟨m - 1, by omega⟩
    show ∃ b, F7l0F n _ _ _ = some b ∧ _
    unfold F7l0F
    rw [decide_eq_true (show (i : Int) < (t0.length : Int) by omega)]
    simp only [cond_true]
    by_cases h80 : (i : Int) ≤ 80
    · rw [decide_eq_true h80, inB_nat (show i < t0.length by omega)]
      simp only [cond_true]
      cases decide ((((t0.getD (Int.toNat (i : Int)) (Ty.dflt (.pair (.int .i64) (.pair (.pair (.int .i64) (.pair .bool (.pair (.int .i64) (.pair .str (.pair .str (.pair (.int .i64) (.pair (.int .i64) .unit))))))) .unit)))).2.1.2.2.2.1).length : Int) > 60) with
      | true => exact ⟨false, rfl, by simp⟩
      | false =>
        simp only [cond_false]
        cases decide ((((t0.getD (Int.toNat (i : Int)) (Ty.dflt (.pair (.int .i64) (.pair (.pair (.int .i64) (.pair .bool (.pair (.int .i64) (.pair .str (.pair .str (.pair (.int .i64) (.pair (.int .i64) .unit))))))) .unit)))).2.1.2.2.2.2.1).length : Int) > 60) with
        | true => exact ⟨false, rfl, by simp⟩
        | false =>
          simp only [cond_false]
          rw [wrap64 (by omega) (by omega)]
          exact ih (i + 1) (by omega) m (by omega) (by omega) (by omega)
    · rw [decide_eq_false h80]
      exact ⟨_, rfl, fun h => by have := of_decide_eq_true h; omega⟩

theorem few8 (t0 : List (List UInt8)) : ∀ (d i : Nat), t0.length - i = d → ∀ m, 33 ≤ m + i → i ≤ 31 → i ≤ t0.length → ∃ b, F8l0 n m t0 (i : Int) = some b ∧ (b = true → t0.length ≤ 30) := by
  intro d
  induction d with
  | zero =>
    intro i hd m hm hi hle
    obtain ⟨m, rfl⟩ : ∃ k, m = k + 1 := ⟨m - 1, by omega⟩
    refine ⟨decide ((t0.length : Int) ≤ 30), ?_, ?_⟩
    · show F8l0F n _ _ _ = _
      unfold F8l0F
      rw [decide_eq_false (by omega)]
      rfl
    · intro h; have := of_decide_eq_true h; omega
  | succ d ih =>
    intro i hd m hm hi hle
    obtain ⟨m, rfl⟩ : ∃ k, m = k + 1 := ⟨m - 1, by omega⟩
    show ∃ b, F8l0F n _ _ _ = some b ∧ _
    unfold F8l0F
    rw [decide_eq_true (show (i : Int) < (t0.length : Int) by omega)]
    simp only [cond_true]
    by_cases h80 : (i : Int) ≤ 30
    · rw [decide_eq_true h80, inB_nat (show i < t0.length by omega)]
      simp only [cond_true]
      cases decide (((t0.getD (Int.toNat (i : Int)) (Ty.dflt .str)).length : Int) > 60) with
      | true => exact ⟨false, rfl, by simp⟩
      | false =>
        simp only [cond_false]
        rw [wrap64 (by omega) (by omega)]
        exact ih (i + 1) (by omega) m (by omega) (by omega) (by omega)
    · rw [decide_eq_false h80]
      exact ⟨_, rfl, fun h => by have := of_decide_eq_true h; omega⟩

theorem place_some (v c : Int) (hc : c ≠ 0) : ∃ r, F10 n v c = some r := by
  unfold F10
  have : (!(c == 0)) = true := by simpa using hc
  rw [this]
  simp only [cond_true]
  cases decide (Int.tmod v c < 0) <;> exact ⟨_, rfl⟩

include hn haw in
theorem steps_loop (t0 : List Step) (ht0 : t0.length ≤ 80) (t1 : List (List UInt8)) (ht : t1.length ≤ 100) :
    ∀ (d i : Nat) (ds : List Dt) (ps : List Int), Ok ds ps → ps.length ≤ i → t0.length - i = d → i ≤ t0.length → ∀ m, d + 1 ≤ m →
      F3l0 n m t0 t1 (i : Int) (rbuild ds ps).1 (rbuild ds ps).2.1 (rbuild ds ps).2.2.1 (build ds ps) = some true := by
  intro d
  induction d with
  | zero =>
    intro i ds ps h hp hd hi m hm
    obtain ⟨m, rfl⟩ : ∃ k, m = k + 1 := ⟨m - 1, by omega⟩
    show F3l0F n _ _ _ _ _ _ _ _ = _
    unfold F3l0F
    rw [decide_eq_false (by omega)]
    simp only [cond_false]
    have hle := h.le
    exact nodes_loop hn haw h t1 ht (ps.length + 3) (-2) (by omega) n (by omega) (by omega)
  | succ d ih =>
    intro i ds ps h hp hd hi m hm
    obtain ⟨m, rfl⟩ : ∃ k, m = k + 1 := ⟨m - 1, by omega⟩
    have key : ∀ p : Int, F3j2 n (F3l0 n m) t0 t1 (i : Int) p (rbuild ds ps).1 (rbuild ds ps).2.1 (rbuild ds ps).2.2.1 (build ds ps) = some true := by
      intro p
      unfold F3j2
      have e2 : (((rbuild ds ps).1, (rbuild ds ps).2.1, (rbuild ds ps).2.2.1, ()) : RefA) = rbuild ds ps := rfl
      obtain ⟨ds', ps', r, h1, h2, h3, h4⟩ := add_both n h (by omega) p (t0.getD (Int.toNat (i : Int)) (Ty.dflt (.pair (.int .i64) (.pair (.pair (.int .i64) (.pair .bool (.pair (.int .i64) (.pair .str (.pair .str (.pair (.int .i64) (.pair (.int .i64) .unit))))))) .unit)))).2.1
      rw [inB_nat (show i < t0.length by omega), e2]
      simp only [cond_true, h1, h2, bne_self_eq_false, cond_false]
      have e3 : F13 n (some (build ds' ps', ())) = some (ps'.length : Int) := len_eq n
      simp only [e3, rl1, bne_self_eq_false, cond_false]
      rw [wrap64 (by omega) (by omega)]
      exact ih (i + 1) ds' ps' h3 (by omega) (by omega) (by omega) m (by omega)
    show F3l0F n _ _ _ _ _ _ _ _ = _
    unfold F3l0F
    rw [decide_eq_true (show (i : Int) < (t0.length : Int) by omega), inB_nat (show i < t0.length by omega)]
    have e5 : (!((5 : Int) == 0)) = true := rfl
    simp only [cond_true, e5]
    cases decide (Int.tmod (i : Int) 5 > 0) with
    | false => exact key _
    | true =>
      simp only [cond_true]
      rw [wrap64 (x := (i : Int) + 2) (by omega) (by omega)]
      obtain ⟨r, hr⟩ := place_some (t0.getD (Int.toNat (i : Int)) (Ty.dflt (.pair (.int .i64) (.pair (.pair (.int .i64) (.pair .bool (.pair (.int .i64) (.pair .str (.pair .str (.pair (.int .i64) (.pair (.int .i64) .unit))))))) .unit)))).1 ((i : Int) + 2) (by omega)
      rw [hr]
      exact key _

theorem ok_nil : Ok [] [] := ⟨rfl, by simp, fun i q h => by simp at h, fun i d h => by simp at h⟩

include hn haw in
theorem arenaPlays_pureN (t0 : List Step) (t1 : List (List UInt8)) : F3 n t0 t1 = some true := by
  obtain ⟨b7, h7, k7⟩ := few7 t0 t0.length 0 rfl n (by omega) (by omega) (by omega)
  obtain ⟨b8, h8, k8⟩ := few8 t1 t1.length 0 rfl n (by omega) (by omega) (by omega)
  have h7' : F7 n t0 = some b7 := h7
  have h8' : F8 n t1 = some b8 := h8
  unfold F3 F6
  simp only [h7', h8', haw]
  cases b7 with
  | false => rfl
  | true =>
    cases b8 with
    | false => rfl
    | true =>
      have := k7 rfl
      have := k8 rfl
      exact steps_loop hn haw t0 (by omega) t1 (by omega) t0.length 0 [] [] ok_nil (by simp) rfl (by omega) n (by omega)

theorem arenaPlays_pure (t0 : List Step) (t1 : List (List UInt8)) : F3 1000 t0 t1 = some true := arenaPlays_pureN (Nat.le_refl _) awake9 t0 t1
end
end Go.Proofs.Ytoonknmckeggaaa.Ab.Ar
