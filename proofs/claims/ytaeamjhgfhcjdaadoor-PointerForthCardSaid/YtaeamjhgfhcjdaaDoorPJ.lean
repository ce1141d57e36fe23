/- Print; few; the law PointerAll. -/
import Derived.Test.YtaeamjhgfhcjdaaDoorPI
namespace Go.Proofs.YtaeamjhgfhcjdaaDoor.Ab.Pt
open Go Go.RowKit Go.Proofs.YtaeamjhgfhcjdaaDoor.Ab
set_option maxRecDepth 100000
set_option linter.unusedVariables false
set_option linter.unusedSimpArgs false

theorem inB_L {α : Type} (pre : List α) (x : α) (l : List α) : inB (pre.length : Int) (pre ++ x :: l).length = true := inB_pre pre x l

theorem ge_pre {α : Type} (pre : List α) : decide ((pre.length : Int) < (((pre ++ []).length : Nat) : Int)) = false := by simp
theorem lt_pre {α : Type} (pre : List α) (x : α) (l : List α) : decide ((pre.length : Int) < (((pre ++ x :: l).length : Nat) : Int)) = true := by simp; omega
theorem wrap_pre {α : Type} (pre : List α) (x : α) (h : pre.length < 9223372036854775807) : IntKind.wrap .i64 ((pre.length : Int) + 1) = ((pre ++ [x]).length : Int) := by
  rw [wrap64 (by omega) (by omega)]; simp

/-! ### same -/

theorem F17_loop (n : Nat) : ∀ (l pre : List (List UInt8)) (m : Nat), (pre ++ l).length ≤ 1000000000 → l.length + 1 ≤ m → F17l0 n m (pre ++ l) (pre ++ l) (pre.length : Int) = some true
  | [], pre, m, hl, hm => by
    obtain ⟨m, rfl⟩ : ∃ j, m = j + 1 := ⟨m - 1, by simp at hm; omega⟩
    rw [F17l0, F17l0F, ge_pre]; rfl
  | x :: l, pre, m, hl, hm => by
    obtain ⟨m, rfl⟩ : ∃ j, m = j + 1 := ⟨m - 1, by simp at hm; omega⟩
    have ih := F17_loop n l (pre ++ [x]) m (by simpa using hl) (by simp at hm; omega)
    rw [List.append_assoc, List.singleton_append] at ih
    rw [F17l0, F17l0F, lt_pre, inB_L, getD_pre, wrap_pre pre x (by simp at hl; omega)]
    simp only [cond_true, beq_self_eq_true, Bool.not_true, cond_false]
    exact ih

theorem F17_self (n : Nat) (l : List (List UInt8)) (h1 : l.length + 1 ≤ n) (h2 : l.length ≤ 1000000000) : F17 n l l = some true := by
  unfold F17
  have : ((l.length : Int) != (l.length : Int)) = false := by simp
  rw [this, cond_false]
  exact F17_loop n l [] n (by simpa using h2) h1

/-! ### few -/

theorem F11_loop (n : Nat) : ∀ (l pre : List (List UInt8)) (m : Nat), (pre ++ l).length ≤ 9223372036854775807 → l.length + 1 ≤ m →
    F11l0 n m (pre ++ l) (pre.length : Int) = some (l.all (fun x => decide (x.length ≤ 60)) && decide ((pre ++ l).length ≤ 20))
  | [], pre, m, hl, hm => by
    obtain ⟨m, rfl⟩ : ∃ j, m = j + 1 := ⟨m - 1, by simp at hm; omega⟩
    rw [F11l0, F11l0F, ge_pre]
    simp
    omega
  | x :: l, pre, m, hl, hm => by
    obtain ⟨m, rfl⟩ : ∃ j, m = j + 1 := ⟨m - 1, by simp at hm; omega⟩
    have ih := F11_loop n l (pre ++ [x]) m (by simpa using hl) (by simp at hm; omega)
    rw [List.append_assoc, List.singleton_append] at ih
    rw [F11l0, F11l0F, lt_pre, inB_L, getD_pre, wrap_pre pre x (by simp at hl; omega), ih]
    by_cases h : x.length ≤ 60
    · have : decide ((x.length : Int) > 60) = false := decide_eq_false (by omega)
      simp [this, h]
    · have : decide ((x.length : Int) > 60) = true := decide_eq_true (by omega)
      simp [this, h]

def fewS (l : List (List UInt8)) : Bool := l.all (fun x => decide (x.length ≤ 60)) && decide (l.length ≤ 20)

theorem F11_eq (n : Nat) (l : List (List UInt8)) (h1 : l.length + 1 ≤ n) (h2 : l.length ≤ 9223372036854775807) : F11 n l = some (fewS l) := F11_loop n l [] n (by simpa using h2) h1

/-! ### Print -/

theorem F19_inner (n : Nat) (r0 : List (List UInt8) → List UInt8 → Int → Option (List UInt8)) (t0 : List (List UInt8)) (t4 : Int) (t : List UInt8) (h4 : inB t4 t0.length = true) (ht : t0.getD (Int.toNat t4) (Ty.dflt .str) = t) (hl : t.length ≤ 1000000) :
    ∀ (l pre out : List UInt8) (m : Nat), t = pre ++ l → l.length + 1 ≤ m → out.length + 2 * l.length ≤ 1000000000 →
    F19l1 n r0 m t0 out t4 (pre.length : Int) = r0 t0 (out ++ esc l) (IntKind.wrap .i64 (t4 + 1))
  | [], pre, out, m, hp, hm, ho => by
    obtain ⟨m, rfl⟩ : ∃ j, m = j + 1 := ⟨m - 1, by simp at hm; omega⟩
    rw [F19l1, F19l1F, h4, ht, hp, ge_pre]
    simp [esc]
  | x :: l, pre, out, m, hp, hm, ho => by
    obtain ⟨m, rfl⟩ : ∃ j, m = j + 1 := ⟨m - 1, by simp at hm; omega⟩
    have hpl : pre.length ≤ 1000000 := by rw [hp] at hl; simp at hl; omega
    simp only [List.length_cons] at ho hm
    have ih := fun out' (h : out'.length + 2 * l.length ≤ 1000000000) => F19_inner n r0 t0 t4 t h4 ht hl l (pre ++ [x]) out' m (by rw [hp]; simp) (by omega) h
    have e1 : esc (x :: l) = (if x = 126 then [126, 48] else if x = 47 then [126, 49] else [x]) ++ esc l := rfl
    have hlt : decide ((pre.length : Int) < ((t.length : Nat) : Int)) = true := by rw [hp]; exact lt_pre pre x l
    have hin : inB (pre.length : Int) t.length = true := by rw [hp]; exact inB_L pre x l
    have hg : t.getD (Int.toNat (pre.length : Int)) 0 = x := by rw [hp]; exact getD_pre pre x 0 l
    have cat : ∀ y : List UInt8, y.length ≤ 5 → decide (out.length + y.length ≤ 9223372036854775807) = true := fun y hy => decide_eq_true (by omega)
    rw [F19l1, F19l1F, h4, ht, hlt, hin, hg, wrap_pre pre x (by omega), e1]
    simp only [cond_true]
    by_cases h126 : x = 126
    · subst h126
      rw [show ((((126 : UInt8).toNat : Int)) == 126) = true from rfl, cat [126, 48] (by simp)]
      simp only [cond_true]
      rw [ih _ (by simp; omega)]
      simp
    · rw [show (((x.toNat : Int)) == 126) = false from byte_ne (k := 126) (by omega) h126]
      simp only [cond_false]
      by_cases h47 : x = 47
      · subst h47
        rw [show ((((47 : UInt8).toNat : Int)) == 47) = true from rfl, cat [126, 49] (by simp)]
        simp only [cond_true]
        rw [ih _ (by simp; omega)]
        simp
      · rw [show (((x.toNat : Int)) == 47) = false from byte_ne (k := 47) (by omega) h47]
        simp only [cond_false]
        have hcut : cutB (pre.length : Int) ((pre ++ [x]).length : Int) t.length = true := by rw [hp]; simp [cutB]; omega
        have hone : (((t).drop (Int.toNat (pre.length : Int))).take (Int.toNat ((pre ++ [x]).length : Int) - Int.toNat (pre.length : Int))) = [x] := by
          rw [hp, show Int.toNat ((pre ++ [x]).length : Int) - Int.toNat (pre.length : Int) = 1 by simp]
          simp
        rw [hcut, hone, cat [x] (by simp)]
        simp only [cond_true]
        rw [ih _ (by simp; omega), if_neg h47]
        simp [h126]

theorem esc_len (t : List UInt8) : (esc t).length ≤ 2 * t.length := by
  unfold esc
  induction t with
  | nil => simp
  | cons x t ih =>
    rw [List.flatMap_cons, List.length_append]
    have : (if x = 126 then ([126, 48] : List UInt8) else if x = 47 then [126, 49] else [x]).length ≤ 2 := by split; simp; split <;> simp
    simp only [List.length_cons]
    omega

theorem F19_loop (n : Nat) : ∀ (l pre : List (List UInt8)) (out : List UInt8) (m : Nat), (∀ x ∈ l, x.length ≤ 60 ∧ x.length + 1 ≤ n) → (pre ++ l).length ≤ 1000 → l.length + 1 ≤ m → out.length + 121 * l.length ≤ 1000000 →
    F19l0 n m (pre ++ l) out (pre.length : Int) = some (out ++ printB l)
  | [], pre, out, m, _, hl, hm, ho => by
    obtain ⟨m, rfl⟩ : ∃ j, m = j + 1 := ⟨m - 1, by simp at hm; omega⟩
    rw [F19l0, F19l0F, ge_pre]
    simp [printB]
  | x :: l, pre, out, m, hx, hl, hm, ho => by
    obtain ⟨m, rfl⟩ : ∃ j, m = j + 1 := ⟨m - 1, by simp at hm; omega⟩
    have hx0 := hx x (by simp)
    have he := esc_len x
    simp only [List.length_cons] at ho hm
    have hpl : pre.length ≤ 1000 := by simp at hl; omega
    have ih := F19_loop n l (pre ++ [x]) (out ++ (47 :: esc x)) m (fun y hy => hx y (by simp [hy])) (by simpa using hl) (by omega) (by simp; omega)
    rw [List.append_assoc, List.singleton_append] at ih
    have cat : decide (out.length + ([47] : List UInt8).length ≤ 9223372036854775807) = true := decide_eq_true (by simp; omega)
    rw [F19l0, F19l0F, lt_pre, cat]
    simp only [cond_true]
    have hin := F19_inner n (F19l0 n m) (pre ++ x :: l) (pre.length : Int) x (inB_L pre x l) (getD_pre pre x _ l) (by omega) x [] (out ++ [47]) n rfl (by omega) (by simp; omega)
    refine Eq.trans hin ?_
    rw [wrap_pre pre x (by omega), show (out ++ [47] ++ esc x) = out ++ (47 :: esc x) by simp, ih]
    unfold printB
    rw [List.flatMap_cons, tokB_esc]
    simp

theorem F19_eq (n : Nat) (hn : 100 ≤ n) (l : List (List UInt8)) (h : fewS l = true) : F19 n l = some (printB l) := by
  simp only [fewS, Bool.and_eq_true, List.all_eq_true, decide_eq_true_eq] at h
  have := F19_loop n l [] [] n (fun x hx => ⟨h.1 x hx, by have := h.1 x hx; omega⟩) (by simp; omega) (by omega) (by simp; omega)
  unfold F19
  simpa using this

theorem F18_eq (n : Nat) (l : List (List UInt8)) (h : fewS l = true) : F18 n l = some (printB l) := by
  simp only [fewS, Bool.and_eq_true, List.all_eq_true, decide_eq_true_eq] at h
  unfold F18
  have : (Nat.ble l.length 1000000 && l.all (fun x => Nat.ble x.length 1000000)) = true := by
    simp only [Bool.and_eq_true, List.all_eq_true, Nat.ble_eq]
    exact ⟨by omega, fun x hx => by have := h.1 x hx; omega⟩
  rw [this]; rfl

theorem parse_len (p : List UInt8) (hp : p.length ≤ 1000) : (parseS p).1.length ≤ 1001 := by
  have hR : ∀ (j : Nat) (l : List UInt8) (i : Nat) (cur : List UInt8) (ds : List (List UInt8)) (out : List (List UInt8)), l.length ≤ j → R l i cur ds = .ok out → out.length ≤ ds.length + l.length + 1 := by
    intro j
    induction j with
    | zero =>
      intro l i cur ds out hj h
      have : l = [] := List.length_eq_zero_iff.1 (by omega)
      subst this
      simp only [R] at h; cases h; simp
    | succ j ih =>
      intro l i cur ds out hj h
      cases l with
      | nil => simp only [R] at h; cases h; simp
      | cons x l =>
        simp only [List.length_cons] at hj ⊢
        by_cases h47 : x = 47
        · subst h47; rw [R_slash] at h
          have := ih l _ _ _ _ (by omega) h
          simp at this; omega
        · by_cases h126 : x = 126
          · subst h126
            cases l with
            | nil => rw [R_tend] at h; cases h
            | cons y r =>
              simp only [List.length_cons] at hj ⊢
              by_cases h48 : y = 48
              · subst h48; rw [R_0] at h
                have := ih r _ _ _ _ (by omega) h
                omega
              · by_cases h49 : y = 49
                · subst h49; rw [R_1] at h
                  have := ih r _ _ _ _ (by omega) h
                  omega
                · rw [R_bad _ _ _ _ h48 h49] at h; cases h
          · rw [R_plain _ _ _ _ h47 h126] at h
            have := ih l _ _ _ _ (by omega) h
            omega
  unfold parseS
  dsimp only
  generalize U (bytesOf p) 0 [] 0 0 0 = u
  have hlen : (p.take u.2.1).length ≤ 1000 := by rw [List.length_take]; omega
  cases hq : p.take u.2.1 with
  | nil => simp
  | cons x l =>
    rw [hq] at hlen
    simp only [List.length_cons] at hlen
    simp only
    split
    · cases hr : R l 1 [] [] with
      | bad k => simp [done13]
      | tend => simp [done13]
      | ok out =>
        have := hR l.length l _ _ _ _ (Nat.le_refl _) hr
        simp only [done13]
        split
        · simp at this ⊢; omega
        · simp
    · simp

theorem all_pure (n : Nat) (p s : List UInt8) (l : List (List UInt8)) (hn : 2000 + l.length ≤ n) (hn2 : l.length ≤ 9223372036854775807) : F3 n p s l = some true := by
  unfold F3
  by_cases hp : p.length > 200
  · rw [decide_eq_true (by omega), awake12]; rfl
  rw [decide_eq_false (by omega), cond_false]
  by_cases hs : s.length > 200
  · rw [decide_eq_true (by omega), awake12]; rfl
  rw [decide_eq_false (by omega), cond_false, F11_eq n l (by omega) (by omega)]
  cases hf : fewS l with
  | false => simp [awake12]
  | true =>
    rw [F13_eq n p (by omega) (by omega), F14_eq n p (by omega) (by omega), F15_eq n (by omega), F16_eq n (by omega)]
    have hpl := parse_len p (by omega)
    simp only [F17_self n (parseS p).1 (by omega) (by omega), F18_eq n l hf, F19_eq n (by omega) l hf, awake12]
    simp

theorem pointerAll_pure (p s : List UInt8) (l : List (List UInt8)) (h : WF (.slice .str) l) : F3 (2000 + l.length) p s l = some true :=
  all_pure _ p s l (Nat.le_refl _) (by have := h.1; unfold maxLen at this; omega)

end Go.Proofs.YtaeamjhgfhcjdaaDoor.Ab.Pt
