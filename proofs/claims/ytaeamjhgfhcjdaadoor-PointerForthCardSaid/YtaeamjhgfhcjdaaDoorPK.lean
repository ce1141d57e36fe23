/- The laws PointerForth and PointerBack. -/
import Derived.Test.YtaeamjhgfhcjdaaDoorPJ
namespace Go.Proofs.YtaeamjhgfhcjdaaDoor.Ab.Pt
open Go Go.RowKit Go.Proofs.YtaeamjhgfhcjdaaDoor.Ab
set_option maxRecDepth 100000
set_option linter.unusedVariables false
set_option linter.unusedSimpArgs false

theorem printB_cons (t : List UInt8) (ts : List (List UInt8)) : printB (t :: ts) = 47 :: (esc t ++ printB ts) := by
  unfold printB
  rw [List.flatMap_cons, tokB_esc]; rfl
theorem printB_append (a b : List (List UInt8)) : printB (a ++ b) = printB a ++ printB b := by simp [printB]
theorem printB_one (t : List UInt8) : printB [t] = 47 :: esc t := by rw [printB_cons]; simp [printB]
theorem esc_append (a b : List UInt8) : esc (a ++ b) = esc a ++ esc b := by simp [esc]
theorem esc_one {x : UInt8} (h1 : x ≠ 47) (h2 : x ≠ 126) : esc [x] = [x] := by simp [esc, h1, h2]

/-- How many signs. -/
def signs (l : List UInt8) : Nat := l.countP (· == 47)

theorem signs_cons (x : UInt8) (l : List UInt8) : signs (x :: l) = signs l + (if x = 47 then 1 else 0) := by
  unfold signs
  rw [List.countP_cons]
  simp

/-- What is read is written so. -/
theorem R_print : ∀ (j : Nat) (l : List UInt8) (i : Nat) (cur : List UInt8) (ds out : List (List UInt8)), l.length ≤ j → R l i cur ds = .ok out → printB out = printB (ds ++ [cur]) ++ l ∧ out.length = ds.length + 1 + signs l := by
  intro j
  induction j with
  | zero =>
    intro l i cur ds out hj h
    have : l = [] := List.length_eq_zero_iff.1 (by omega)
    subst this
    simp only [R] at h; cases h
    simp [signs]
  | succ j ih =>
    intro l i cur ds out hj h
    cases l with
    | nil => simp only [R] at h; cases h; simp [signs]
    | cons x l =>
      simp only [List.length_cons] at hj
      by_cases h47 : x = 47
      · subst h47; rw [R_slash] at h
        obtain ⟨a, b⟩ := ih l _ _ _ _ (by omega) h
        rw [signs_cons, a, b]
        refine ⟨?_, by simp; omega⟩
        rw [printB_append (ds ++ [cur]), printB_one]
        simp [esc]
      · by_cases h126 : x = 126
        · subst h126
          cases l with
          | nil => rw [R_tend] at h; cases h
          | cons y r =>
            simp only [List.length_cons] at hj
            by_cases h48 : y = 48
            · subst h48; rw [R_0] at h
              obtain ⟨a, b⟩ := ih r _ _ _ _ (by omega) h
              rw [signs_cons, signs_cons, a, b]
              refine ⟨?_, by simp⟩
              rw [printB_append, printB_append, printB_one, printB_one, esc_append]
              simp [esc]
            · by_cases h49 : y = 49
              · subst h49; rw [R_1] at h
                obtain ⟨a, b⟩ := ih r _ _ _ _ (by omega) h
                rw [signs_cons, signs_cons, a, b]
                refine ⟨?_, by simp⟩
                rw [printB_append, printB_append, printB_one, printB_one, esc_append]
                simp [esc]
              · rw [R_bad _ _ _ _ h48 h49] at h; cases h
        · rw [R_plain _ _ _ _ h47 h126] at h
          obtain ⟨a, b⟩ := ih l _ _ _ _ (by omega) h
          rw [signs_cons, a, b, if_neg h47]
          refine ⟨?_, rfl⟩
          rw [printB_append, printB_append, printB_one, printB_one, esc_append, esc_one h47 h126]
          simp

theorem parse_ok {p : List UInt8} (h : (parseS p).2.2 = true) : printB (parseS p).1 = p ∧ (parseS p).1.length = signs p ∧ (parseS p).2.1 = (p.length : Int) := by
  obtain ⟨u1, u2, u3⟩ := U_le (bytesOf p) 0 [] 0 0 0
  rw [bytes_len, Nat.zero_add] at u2 u3
  unfold parseS at h ⊢
  dsimp only at h ⊢
  generalize U (bytesOf p) 0 [] 0 0 0 = u at *
  obtain ⟨rs, k, ok⟩ := u
  simp only at u2 u3 h ⊢
  cases hq : p.take k with
  | nil =>
    rw [hq] at h
    have hk := u3 h
    subst hk
    rw [List.take_length] at hq
    subst hq
    simp [printB, signs]
  | cons x l =>
    rw [hq] at h
    simp only at h ⊢
    by_cases h47 : x = 47
    · subst h47
      rw [if_pos rfl] at h ⊢
      cases hr : R l 1 [] [] with
      | bad k => rw [hr] at h; simp [done13] at h
      | tend => rw [hr] at h; simp [done13] at h
      | ok out =>
        rw [hr] at h
        cases ok with
        | false => simp [done13] at h
        | true =>
          have hk := u3 rfl
          subst hk
          rw [List.take_length] at hq
          obtain ⟨a, b⟩ := R_print l.length l 1 [] [] out (Nat.le_refl _) hr
          simp only [done13, if_true]
          refine ⟨?_, ?_, trivial⟩
          · rw [a, hq, List.nil_append, printB_one]; simp [esc]
          · rw [b, hq, signs_cons]; simp; omega
    · rw [if_neg h47] at h; cases h

theorem parse_bad {p : List UInt8} (h : (parseS p).2.2 = false) : (parseS p).1 = [] := by
  unfold parseS at h ⊢
  dsimp only at h ⊢
  generalize U (bytesOf p) 0 [] 0 0 0 = u at *
  split at h
  · rfl
  · split at h
    · rename_i x l hq h47
      rw [if_pos h47]
      cases hr : R l 1 [] [] with
      | bad k => rfl
      | tend => rfl
      | ok out =>
        rw [hr] at h
        cases hok : u.2.2 with
        | false => simp [done13]
        | true => rw [hok] at h; simp [done13] at h
    · rename_i x l hq h47
      rw [if_neg h47]

theorem esc_ge : ∀ t : List UInt8, t.length ≤ (esc t).length
  | [] => Nat.le_refl _
  | x :: t => by
    have := esc_ge t
    have e : esc (x :: t) = (if x = 126 then [126, 48] else if x = 47 then [126, 49] else [x]) ++ esc t := rfl
    rw [e, List.length_append]
    have : 1 ≤ (if x = 126 then ([126, 48] : List UInt8) else if x = 47 then [126, 49] else [x]).length := by split; simp; split <;> simp
    simp only [List.length_cons]; omega

theorem printB_ge : ∀ (l : List (List UInt8)), l.length ≤ (printB l).length ∧ ∀ x ∈ l, x.length ≤ (printB l).length
  | [] => ⟨Nat.le_refl _, by simp⟩
  | t :: ts => by
    obtain ⟨a, b⟩ := printB_ge ts
    have := esc_ge t
    rw [printB_cons]
    simp only [List.length_cons, List.length_append]
    refine ⟨by omega, fun x hx => ?_⟩
    rcases List.mem_cons.1 hx with rfl | hx
    · omega
    · have := b x hx; omega

theorem F18_print (n : Nat) (l : List (List UInt8)) (h : (printB l).length ≤ 1000000) : F18 n l = some (printB l) := by
  obtain ⟨a, b⟩ := printB_ge l
  unfold F18
  have : (Nat.ble l.length 1000000 && l.all (fun x => Nat.ble x.length 1000000)) = true := by
    simp only [Bool.and_eq_true, List.all_eq_true, Nat.ble_eq]
    exact ⟨by omega, fun x hx => by have := b x hx; omega⟩
  rw [this]; rfl

theorem F5_loop (n : Nat) (t0 : List UInt8) (t3 : List (List UInt8)) (h18 : F18 n t3 = some t0) (hsg : t3.length = signs t0) (hl : t0.length ≤ 1000) :
    ∀ (l pre : List UInt8) (c : Nat) (m : Nat), t0 = pre ++ l → signs t0 = c + signs l → c ≤ pre.length → l.length + 1 ≤ m → F5l0 n m t0 t3 (t0.length : Int) (c : Int) (pre.length : Int) = some true
  | [], pre, c, m, hp, hc, hc2, hm => by
    obtain ⟨m, rfl⟩ : ∃ j, m = j + 1 := ⟨m - 1, by simp at hm; omega⟩
    have hge : decide ((pre.length : Int) < ((t0.length : Nat) : Int)) = false := by rw [hp]; exact ge_pre pre
    have hcc : ((t3.length : Int) == (c : Int)) = true := by
      rw [beq_iff_eq, hsg, hc]; simp [signs]
    rw [F5l0, F5l0F, hge, h18, hcc, awake12]
    simp
  | x :: l, pre, c, m, hp, hc, hc2, hm => by
    obtain ⟨m, rfl⟩ : ∃ j, m = j + 1 := ⟨m - 1, by simp at hm; omega⟩
    have hpl : pre.length ≤ 1000 := by rw [hp] at hl; simp at hl; omega
    have hlt : decide ((pre.length : Int) < ((t0.length : Nat) : Int)) = true := by rw [hp]; exact lt_pre pre x l
    have hin : inB (pre.length : Int) t0.length = true := by rw [hp]; exact inB_L pre x l
    have hg : t0.getD (Int.toNat (pre.length : Int)) 0 = x := by rw [hp]; exact getD_pre pre x 0 l
    rw [F5l0, F5l0F, hlt, hin, hg, wrap_pre pre x (by omega)]
    simp only [cond_true]
    rw [signs_cons] at hc
    by_cases h47 : x = 47
    · subst h47
      rw [if_pos rfl] at hc
      rw [show ((((47 : UInt8).toNat : Int)) == 47) = true from rfl, cond_true, wrap64 (by omega) (by omega)]
      have := F5_loop n t0 t3 h18 hsg hl l (pre ++ [47]) (c + 1) m (by rw [hp]; simp) (by omega) (by simp; omega) (by simp at hm; omega)
      exact this
    · rw [if_neg h47] at hc
      rw [show (((x.toNat : Int)) == 47) = false from byte_ne (k := 47) (by omega) h47, cond_false]
      exact F5_loop n t0 t3 h18 hsg hl l (pre ++ [x]) c m (by rw [hp]; simp) (by omega) (by simp; omega) (by simp at hm; omega)

theorem forth_pure (n : Nat) (hn : 2000 ≤ n) (p : List UInt8) : F5 n p = some true := by
  unfold F5
  by_cases hp : p.length > 200
  · rw [decide_eq_true (by omega), awake12]; rfl
  rw [decide_eq_false (by omega), cond_false, F13_eq n p (by omega) (by omega)]
  cases hok : (parseS p).2.2 with
  | false =>
    have hb := parse_bad hok
    generalize parseS p = q at *
    simp [hok, hb, awake12]
  | true =>
    obtain ⟨a, b, c⟩ := parse_ok hok
    have h18 := F18_print n (parseS p).1 (by rw [a]; omega)
    rw [a] at h18
    simp only [hok, Bool.not_true, cond_false, c]
    exact F5_loop n p (parseS p).1 h18 b (by omega) p [] 0 n rfl (by simp) (by simp) (by omega)

theorem pointerForth_pure (p : List UInt8) : F5 2000 p = some true := forth_pure _ (Nat.le_refl _) p

/-! ### PointerBack -/

def valid (s : List UInt8) : Prop := (U (bytesOf s) 0 [] 0 0 0).2.2 = true

theorem bytesOf_append (a b : List UInt8) : bytesOf (a ++ b) = bytesOf a ++ bytesOf b := by simp [bytesOf]
theorem bytesOf_cons (a : UInt8) (b : List UInt8) : bytesOf (a :: b) = (a.toNat : Int) :: bytesOf b := rfl

/-- Whether it is right hangs on the state alone. -/
theorem U_ok_any : ∀ (l : List Int) (k : Nat) (f c : Int) (pos : Nat) (acc : List Int) (c' : Int) (pos' : Nat) (acc' : List Int), (U l pos acc k f c).2.2 = (U l pos' acc' k f c').2.2
  | [], k, f, c, pos, acc, c', pos', acc' => by unfold U; split <;> rfl
  | x :: l, k, f, c, pos, acc, c', pos', acc' => by
    unfold U
    split
    · split
      · exact U_ok_any l _ _ _ _ _ _ _ _
      · split
        · rfl
        · exact U_ok_any l _ _ _ _ _ _ _ _
    · split
      · split
        · exact U_ok_any l _ _ _ _ _ _ _ _
        · exact U_ok_any l _ _ _ _ _ _ _ _
      · rfl

def okU (l : List Int) (k : Nat) (f : Int) : Bool := (U l 0 [] k f 0).2.2

theorem okU_eq (l : List Int) (k : Nat) (f c : Int) (pos : Nat) (acc : List Int) : (U l pos acc k f c).2.2 = okU l k f := U_ok_any _ _ _ _ _ _ _ _ _

theorem okU_nil (k : Nat) (f : Int) : okU [] k f = decide (k = 0) := by
  unfold okU U
  by_cases h : k = 0 <;> simp [h]

theorem okU_cons (x : Int) (l : List Int) (k : Nat) (f : Int) : okU (x :: l) k f =
    if k = 0 then (if lng x = 1 then okU l 0 f else if lng x = 0 then false else okU l 1 x)
    else if cont k f x then (if (k : Int) + 1 < lng f then okU l (k + 1) f else okU l 0 f) else false := by
  conv => lhs; unfold okU U
  (repeat' split) <;> simp_all [okU_eq]

theorem okU_f0 : ∀ (l : List Int) (f f' : Int), okU l 0 f = okU l 0 f' := by
  intro l f f'
  unfold okU
  rw [U_any l 0 [] f 0 f' 0]

theorem okU_append : ∀ (a b : List Int) (k : Nat) (f : Int), okU a k f = true → okU (a ++ b) k f = okU b 0 0
  | [], b, k, f, h => by
    rw [okU_nil] at h
    have : k = 0 := by simpa using h
    subst this
    exact okU_f0 _ _ _
  | x :: a, b, k, f, h => by
    rw [List.cons_append, okU_cons]
    rw [okU_cons] at h
    split
    · rename_i hk
      rw [if_pos hk] at h
      split
      · rename_i h1
        rw [if_pos h1] at h
        exact okU_append a b _ _ h
      · rename_i h1
        rw [if_neg h1] at h
        split
        · rename_i h0; rw [if_pos h0] at h; cases h
        · rename_i h0; rw [if_neg h0] at h
          exact okU_append a b _ _ h
    · rename_i hk
      rw [if_neg hk] at h
      split
      · rename_i hc
        rw [if_pos hc] at h
        split
        · rename_i h1
          rw [if_pos h1] at h
          exact okU_append a b _ _ h
        · rename_i h1
          rw [if_neg h1] at h
          exact okU_append a b _ _ h
      · rename_i hc; rw [if_neg hc] at h; cases h

theorem okU_low {x : Int} (l : List Int) (f : Int) (h0 : x < 128) : okU (x :: l) 0 f = okU l 0 0 := by
  rw [okU_cons, if_pos rfl, if_pos (by unfold lng; rw [if_pos h0]), okU_f0]

theorem okU_esc : ∀ (t : List UInt8) (k : Nat) (f : Int), okU (bytesOf t) k f = true → okU (bytesOf (esc t)) k f = true
  | [], k, f, h => h
  | x :: t, k, f, h => by
    have e : esc (x :: t) = (if x = 126 then [126, 48] else if x = 47 then [126, 49] else [x]) ++ esc t := rfl
    rw [bytesOf_cons, okU_cons] at h
    by_cases hk : k = 0
    · subst hk
      rw [if_pos rfl] at h
      by_cases h126 : x = 126
      · subst h126
        rw [e, if_pos rfl, bytesOf_append]
        rw [if_pos (by rfl)] at h
        have ih := okU_esc t 0 f h
        show okU (126 :: 48 :: bytesOf (esc t)) 0 f = true
        rw [okU_low _ _ (by decide), okU_low _ _ (by decide), okU_f0 _ 0 f]; exact ih
      · by_cases h47 : x = 47
        · subst h47
          rw [e, if_neg (by decide), if_pos rfl, bytesOf_append]
          rw [if_pos (by rfl)] at h
          have ih := okU_esc t 0 f h
          show okU (126 :: 49 :: bytesOf (esc t)) 0 f = true
          rw [okU_low _ _ (by decide), okU_low _ _ (by decide), okU_f0 _ 0 f]; exact ih
        · rw [e, if_neg h126, if_neg h47, List.singleton_append, bytesOf_cons, okU_cons, if_pos rfl]
          split at h
          · rename_i h1; rw [if_pos h1]; exact okU_esc t _ _ h
          · rename_i h1; rw [if_neg h1]
            split at h
            · cases h
            · rename_i h0; rw [if_neg h0]; exact okU_esc t _ _ h
    · rw [if_neg hk] at h
      split at h
      · rename_i hc
        have hx : 128 ≤ (x.toNat : Int) := by
          simp only [cont, Bool.and_eq_true, decide_eq_true_eq] at hc
          exact hc.2.1
        have h126 : x ≠ 126 := fun e => by subst e; revert hx; decide
        have h47 : x ≠ 47 := fun e => by subst e; revert hx; decide
        rw [e, if_neg h126, if_neg h47, List.singleton_append, bytesOf_cons, okU_cons, if_neg hk, if_pos hc]
        split at h
        · rename_i h1; rw [if_pos h1]; exact okU_esc t _ _ h
        · rename_i h1; rw [if_neg h1]; exact okU_esc t _ _ h
      · cases h

theorem okU_print : ∀ (l : List (List UInt8)), (∀ x ∈ l, okU (bytesOf x) 0 0 = true) → okU (bytesOf (printB l)) 0 0 = true
  | [], _ => rfl
  | t :: ts, h => by
    rw [printB_cons, bytesOf_cons, okU_low _ _ (by decide), bytesOf_append, okU_append _ _ _ _ (okU_esc t 0 0 (h t (by simp)))]
    exact okU_print ts fun x hx => h x (by simp [hx])

theorem R_esc : ∀ (t r : List UInt8) (i : Nat) (cur : List UInt8) (ds : List (List UInt8)), ∃ i', R (esc t ++ r) i cur ds = R r i' (cur ++ t) ds
  | [], r, i, cur, ds => ⟨i, by simp [esc]⟩
  | x :: t, r, i, cur, ds => by
    have e : esc (x :: t) = (if x = 126 then [126, 48] else if x = 47 then [126, 49] else [x]) ++ esc t := rfl
    rw [e, List.append_assoc]
    by_cases h126 : x = 126
    · subst h126
      obtain ⟨i', h⟩ := R_esc t r (i + 2) (cur ++ [126]) ds
      refine ⟨i', ?_⟩
      rw [if_pos rfl]
      show R (126 :: 48 :: (esc t ++ r)) i cur ds = _
      rw [R_0, h, List.append_assoc]; rfl
    · by_cases h47 : x = 47
      · subst h47
        obtain ⟨i', h⟩ := R_esc t r (i + 2) (cur ++ [47]) ds
        refine ⟨i', ?_⟩
        rw [if_neg (by decide), if_pos rfl]
        show R (126 :: 49 :: (esc t ++ r)) i cur ds = _
        rw [R_1, h, List.append_assoc]; rfl
      · obtain ⟨i', h⟩ := R_esc t r (i + 1) (cur ++ [x]) ds
        refine ⟨i', ?_⟩
        rw [if_neg h126, if_neg h47, List.singleton_append, R_plain _ _ _ _ h47 h126, h, List.append_assoc]; rfl

theorem R_back : ∀ (ts : List (List UInt8)) (i : Nat) (cur : List UInt8) (ds : List (List UInt8)), R (printB ts) i cur ds = .ok (ds ++ [cur] ++ ts)
  | [], i, cur, ds => by simp [printB, R]
  | t :: ts, i, cur, ds => by
    rw [printB_cons, R_slash]
    obtain ⟨i', h⟩ := R_esc t (printB ts) (i + 1) [] (ds ++ [cur])
    rw [h, R_back ts i' ([] ++ t) (ds ++ [cur])]
    simp

theorem parse_print (l : List (List UInt8)) (h : ∀ x ∈ l, okU (bytesOf x) 0 0 = true) : parseS (printB l) = (l, ((printB l).length : Int), true) := by
  have hok := okU_print l h
  obtain ⟨u1, u2, u3⟩ := U_le (bytesOf (printB l)) 0 [] 0 0 0
  have hk := u3 hok
  rw [bytes_len, Nat.zero_add] at hk
  unfold parseS
  dsimp only
  rw [hk, List.take_length, show (U (bytesOf (printB l)) 0 [] 0 0 0).2.2 = true from hok]
  cases l with
  | nil => simp [printB]
  | cons t ts =>
    rw [printB_cons]
    simp only [if_true]
    obtain ⟨i', h⟩ := R_esc t (printB ts) 1 [] []
    rw [h, R_back]
    simp [done13]

theorem F4_loop (n : Nat) (t0 : List (List UInt8)) (hf : fewS t0 = true) (hn : 10000 ≤ n) :
    ∀ (l pre : List (List UInt8)) (m : Nat), t0 = pre ++ l → (∀ x ∈ pre, okU (bytesOf x) 0 0 = true) → l.length + 1 ≤ m → F4l0 n m t0 (pre.length : Int) = some true := by
  have hf' := hf
  simp only [fewS, Bool.and_eq_true, List.all_eq_true, decide_eq_true_eq] at hf'
  intro l
  induction l with
  | nil =>
    intro pre m hp hv hm
    obtain ⟨m, rfl⟩ : ∃ j, m = j + 1 := ⟨m - 1, by simp at hm; omega⟩
    rw [List.append_nil] at hp
    subst hp
    have hge : decide ((t0.length : Int) < ((t0.length : Nat) : Int)) = false := by simp
    have hpp := parse_print t0 hv
    have hlen : (printB t0).length ≤ 3000 := by
      have : ∀ (l : List (List UInt8)), (∀ x ∈ l, x.length ≤ 60) → (printB l).length ≤ 121 * l.length := by
        intro l
        induction l with
        | nil => intro _; simp [printB]
        | cons t ts ih =>
          intro h
          have h1 := ih fun x hx => h x (by simp [hx])
          have h2 := h t (by simp)
          have h3 := esc_len t
          rw [printB_cons]
          simp only [List.length_cons, List.length_append]; omega
      have := this t0 hf'.1
      omega
    rw [F4l0, F4l0F, hge, F18_eq n t0 hf, awake12]
    dsimp only
    rw [F13_eq n _ (by omega) (by omega), hpp]
    simp only [cond_false, cond_true, beq_self_eq_true, F17_self n t0 (by omega) (by omega)]
  | cons x l ih =>
    intro pre m hp hv hm
    obtain ⟨m, rfl⟩ : ∃ j, m = j + 1 := ⟨m - 1, by simp at hm; omega⟩
    have hx : x.length ≤ 60 := hf'.1 x (by rw [hp]; simp)
    have hpl : pre.length ≤ 20 := by have := hf'.2; rw [hp] at this; simp at this; omega
    have hlt : decide ((pre.length : Int) < ((t0.length : Nat) : Int)) = true := by rw [hp]; exact lt_pre pre x l
    have hin : inB (pre.length : Int) t0.length = true := by rw [hp]; exact inB_L pre x l
    have hg : t0.getD (Int.toNat (pre.length : Int)) (Ty.dflt .str) = x := by rw [hp]; exact getD_pre pre x _ l
    have h20 : F20 n x = some (okU (bytesOf x) 0 0) := by
      unfold F20
      rw [F21_eq n _ (bytes_isB x) (by rw [bytes_len]; omega) (by rw [bytes_len]; omega)]
      rfl
    rw [F4l0, F4l0F, hlt, hin, hg, h20, wrap_pre pre x (by omega)]
    cases hv' : okU (bytesOf x) 0 0 with
    | false => simp [awake12]
    | true =>
      simp only [cond_true, Bool.not_true, cond_false]
      exact ih (pre ++ [x]) m (by rw [hp]; simp) (fun y hy => by
        rcases List.mem_append.1 hy with hy | hy
        · exact hv y hy
        · simp at hy; subst hy; exact hv') (by simp at hm; omega)

theorem back_pure (n : Nat) (l : List (List UInt8)) (hn : 10000 + l.length ≤ n) (h2 : l.length ≤ 9223372036854775807) : F4 n l = some true := by
  unfold F4
  rw [F11_eq n l (by omega) h2]
  cases hf : fewS l with
  | false => simp [awake12]
  | true =>
    simp only [Bool.not_true, cond_false]
    exact F4_loop n l hf (by omega) l [] n rfl (by simp) (by omega)

theorem pointerBack_pure (l : List (List UInt8)) (h : WF (.slice .str) l) : F4 (10000 + l.length) l = some true :=
  back_pure _ l (Nat.le_refl _) (by have := h.1; unfold maxLen at this; omega)

end Go.Proofs.YtaeamjhgfhcjdaaDoor.Ab.Pt
