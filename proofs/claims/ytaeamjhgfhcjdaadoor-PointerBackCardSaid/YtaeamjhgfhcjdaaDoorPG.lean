/- Parse, as the document says it and as the program does it. -/
import Derived.Test.YtaeamjhgfhcjdaaDoorPF
namespace Go.Proofs.YtaeamjhgfhcjdaaDoor.Ab.Pt
open Go Go.RowKit Go.Proofs.YtaeamjhgfhcjdaaDoor.Ab
set_option maxRecDepth 100000
set_option linter.unusedVariables false
set_option linter.unusedSimpArgs false

/-! ### Texts, rune by rune -/

theorem get_list (s : List UInt8) (i : Nat) : (ByteArray.mk s.toArray).get! i = s.getD i 0 := by
  simp [ByteArray.get!, List.getD]
  rfl

theorem dec_wide (B : ByteArray) (i : Nat) : ∀ k, 1 ≤ k → k < (Utf8.decode B i).2 → i + k < B.size ∧ 128 ≤ (B.get! (i + k)).toNat := by
  have hc : ∀ j, (decide (i + j < B.size) && (B.get! (i + j)).toNat / 64 == 2) = true → i + j < B.size ∧ 128 ≤ (B.get! (i + j)).toNat := by
    intro j hj
    simp only [Bool.and_eq_true, decide_eq_true_eq, beq_iff_eq] at hj
    exact ⟨hj.1, by omega⟩
  intro k hk h
  unfold Utf8.decode at h
  dsimp only at h
  split at h
  · omega
  · split at h
    · rename_i hh
      simp only [Bool.and_eq_true] at hh
      split at h
      · obtain rfl : k = 1 := by simp only at h; omega
        exact hc 1 (by simpa using hh.2)
      · simp only at h; omega
    · split at h
      · rename_i hh
        simp only [Bool.and_eq_true] at hh
        split at h
        · have : k = 1 ∨ k = 2 := by simp only at h; omega
          rcases this with rfl | rfl
          · exact hc 1 (by simpa using hh.1.2)
          · exact hc 2 (by simpa using hh.2)
        · simp only at h; omega
      · split at h
        · rename_i hh
          simp only [Bool.and_eq_true] at hh
          split at h
          · have : k = 1 ∨ k = 2 ∨ k = 3 := by simp only at h; omega
            rcases this with rfl | rfl | rfl
            · exact hc 1 (by simpa using hh.1.1.2)
            · exact hc 2 (by simpa using hh.1.2)
            · exact hc 3 (by simpa using hh.2)
          · simp only at h; omega
        · simp only at h; omega

theorem decR_low (pre r : List UInt8) (x : UInt8) (h : x.toNat < 128) : decR (pre ++ x :: r) pre.length = (x.toNat, 1) := by
  unfold decR
  have hs : pre.length < (ByteArray.mk (pre ++ x :: r).toArray).size := by simp [ByteArray.size]
  have hx : (ByteArray.mk (pre ++ x :: r).toArray)[pre.length]'hs = x := by
    show ((pre ++ x :: r).toArray)[pre.length]'_ = x
    simp
  have := Go.decode_ascii (ByteArray.mk (pre ++ x :: r).toArray) pre.length hs (by rw [hx]; exact h)
  rw [hx] at this
  exact this

theorem decR_high (pre r : List UInt8) (x : UInt8) (h : 128 ≤ x.toNat) : 128 ≤ (decR (pre ++ x :: r) pre.length).1 ∧
    ∃ q r', x :: r = q ++ r' ∧ q.length = (decR (pre ++ x :: r) pre.length).2 ∧ 1 ≤ q.length ∧ ∀ y ∈ q, 128 ≤ y.toNat := by
  unfold decR
  have hs : pre.length < (ByteArray.mk (pre ++ x :: r).toArray).size := by simp [ByteArray.size]
  have hx : (ByteArray.mk (pre ++ x :: r).toArray)[pre.length]'hs = x := by
    show ((pre ++ x :: r).toArray)[pre.length]'_ = x
    simp
  obtain ⟨h1, h2⟩ := Go.decode_high (ByteArray.mk (pre ++ x :: r).toArray) pre.length hs (by rw [hx]; exact h)
  have hw := dec_wide (ByteArray.mk (pre ++ x :: r).toArray) pre.length
  generalize Utf8.decode (ByteArray.mk (pre ++ x :: r).toArray) pre.length = d at *
  obtain ⟨c, w⟩ := d
  simp only at h1 h2 hw ⊢
  have key : ∀ k, k < w → k < (x :: r).length ∧ 128 ≤ ((x :: r).getD k 0).toNat := by
    intro k hk
    by_cases h0 : k = 0
    · subst h0; exact ⟨by simp, by simpa using h⟩
    · obtain ⟨a, b⟩ := hw k (by omega) hk
      rw [get_list] at b
      have a' : pre.length + k < (pre ++ x :: r).length := a
      refine ⟨by simp at a' ⊢; omega, ?_⟩
      simpa [List.getD, List.getElem?_append_right] using b
  refine ⟨h1, (x :: r).take w, (x :: r).drop w, (List.take_append_drop _ _).symm, ?_, ?_, ?_⟩
  · have := (key (w - 1) (by omega)).1
    rw [List.length_take]; omega
  · have := (key (w - 1) (by omega)).1
    rw [List.length_take]; omega
  · intro y hy
    obtain ⟨k, hk, rfl⟩ := List.mem_iff_getElem.1 hy
    have hk' : k < w := by rw [List.length_take] at hk; omega
    obtain ⟨a, b⟩ := key k hk'
    rw [List.getElem_take]
    rwa [List.getD_eq_getElem?_getD, List.getElem?_eq_getElem a] at b

/-! ### A segment -/

inductive Sc where
  | bad (k : Nat) | slash (k : Nat) | fin (t : Bool)

def scan : List UInt8 → Bool → Nat → Sc
  | [], t, _ => .fin t
  | x :: r, t, pos => if t && x != 48 && x != 49 then .bad pos else if x = 47 then .slash pos else scan r (x == 126) (pos + 1)

theorem scan_high : ∀ (q r : List UInt8) (pos : Nat), (∀ y ∈ q, 128 ≤ y.toNat) → scan (q ++ r) false pos = scan r false (pos + q.length)
  | [], r, pos, _ => rfl
  | x :: q, r, pos, h => by
    have hx := h x (by simp)
    have h47 : x ≠ 47 := fun e => by subst e; revert hx; decide
    have h126 : (x == 126) = false := by
      rw [beq_eq_false_iff_ne]; intro e; subst e; revert hx; decide
    have ih := scan_high q r (pos + 1) (fun y hy => h y (by simp [hy]))
    simp only [List.cons_append, scan, Bool.false_and, Bool.false_eq_true, if_false, h47, h126, ih, List.length_cons]
    congr 1; omega

abbrev PRes := List (List UInt8) × Int × Bool

theorem F13_inner (n : Nat) (r0 : Int → Bool → List (List UInt8) → List UInt8 → Int → Option PRes) (t6 : Int) (t7 : Bool) (t8 : List (List UInt8)) (t9 : List UInt8) (t10 t11 : Int) (h10 : 0 ≤ t10 ∧ t10 ≤ 1000000) :
    ∀ (j : Nat) (l pre : List UInt8) (t12 : Bool) (m : Nat), l.length ≤ j → (pre ++ l).length ≤ 1000000 → l.length + 1 ≤ m →
    F13l3 n r0 m t6 t7 t8 t9 t10 t11 t12 (pre ++ l, pre.length) = match scan l t12 pre.length with
      | .bad k => some ([], t10 + 1 + (k : Int), false)
      | .slash k => F13j1 n r0 t6 t7 t8 t9 t10 (1 + (k : Int)) false
      | .fin t => F13j1 n r0 t6 t7 t8 t9 t10 t11 t := by
  intro j
  induction j with
  | zero =>
    intro l pre t12 m hj hl hm
    have : l = [] := List.length_eq_zero_iff.1 (by omega)
    subst this
    obtain ⟨m, rfl⟩ : ∃ j, m = j + 1 := ⟨m - 1, by omega⟩
    have hf : Nat.ble (pre.length + 1) pre.length = false := by rw [Bool.eq_false_iff]; intro h; have := Nat.le_of_ble_eq_true h; omega
    simp [F13l3, F13l3F, scan, Nat.blt, hf]
  | succ j ih =>
    intro l pre t12 m hj hl hm
    obtain ⟨m, rfl⟩ : ∃ j, m = j + 1 := ⟨m - 1, by omega⟩
    cases l with
    | nil =>
      have hf : Nat.ble (pre.length + 1) pre.length = false := by rw [Bool.eq_false_iff]; intro h; have := Nat.le_of_ble_eq_true h; omega
      simp [F13l3, F13l3F, scan, Nat.blt, hf]
    | cons x r =>
      have hb : Nat.blt pre.length (pre ++ x :: r).length = true := by simp [Nat.blt, Nat.ble_eq]
      have hpl : pre.length ≤ 1000000 := by simp at hl; omega
      have hb1 : IntKind.wrap .i64 ((IntKind.wrap .i64 (t10 + 1)) + (pre.length : Int)) = t10 + 1 + (pre.length : Int) := by
        rw [wrap64 (x := t10 + 1) (by omega) (by omega), wrap64 (by omega) (by omega)]
      have hb2 : IntKind.wrap .i64 (1 + (pre.length : Int)) = 1 + (pre.length : Int) := wrap64 (by omega) (by omega)
      unfold F13l3 F13l3F
      rw [hb]
      simp only [cond_true]
      by_cases hx : x.toNat < 128
      · rw [decR_low pre r x hx]
        have ih' := ih r (pre ++ [x]) (x == 126) m (by simp at hj; omega) (by simpa using hl) (by simp at hm; omega)
        simp only [List.append_assoc, List.singleton_append, List.length_append, List.length_singleton] at ih'
        have e48 : (((x.toNat : Int)) != 48) = (x != 48) := by
          by_cases e : x = 48
          · subst e; rfl
          · have : x.toNat ≠ 48 := fun h => e (UInt8.toNat_inj.1 (h.trans (by decide)))
            rw [bne_iff_ne.2 e, bne_iff_ne.2 (by omega)]
        have e49 : (((x.toNat : Int)) != 49) = (x != 49) := by
          by_cases e : x = 49
          · subst e; rfl
          · have : x.toNat ≠ 49 := fun h => e (UInt8.toNat_inj.1 (h.trans (by decide)))
            rw [bne_iff_ne.2 e, bne_iff_ne.2 (by omega)]
        have e47 : ((x.toNat : Int) == 47) = decide (x = 47) := by
          by_cases e : x = 47
          · subst e; rfl
          · have : x.toNat ≠ 47 := fun h => e (UInt8.toNat_inj.1 (h.trans (by decide)))
            rw [decide_eq_false e, beq_eq_false_iff_ne.2 (by omega)]
        have e126 : ((x.toNat : Int) == 126) = (x == 126) := by
          by_cases e : x = 126
          · subst e; rfl
          · have : x.toNat ≠ 126 := fun h => e (UInt8.toNat_inj.1 (h.trans (by decide)))
            rw [beq_eq_false_iff_ne.2 e, beq_eq_false_iff_ne.2 (by omega)]
        have hj4 : ∀ t12' : Bool, (x = 47 → t12' = false) → F13j4 n r0 (F13l3 n r0 m) t6 t7 t8 t9 t10 t11 t12' (pre.length : Int) (x.toNat : Int) (pre ++ x :: r, pre.length + 1) false =
            match (if x = 47 then Sc.slash pre.length else scan r (x == 126) (pre.length + 1)) with
            | .bad k => some ([], t10 + 1 + (k : Int), false)
            | .slash k => F13j1 n r0 t6 t7 t8 t9 t10 (1 + (k : Int)) false
            | .fin t => F13j1 n r0 t6 t7 t8 t9 t10 t11 t := by
          intro t12' ht
          unfold F13j4
          rw [cond_false, e47, e126, hb2]
          by_cases h47 : x = 47
          · rw [decide_eq_true h47, cond_true, if_pos h47, ht h47]
          · rw [decide_eq_false h47, cond_false, if_neg h47]
            exact ih'
        have hbad : F13j4 n r0 (F13l3 n r0 m) t6 t7 t8 t9 t10 t11 t12 (pre.length : Int) (x.toNat : Int) (pre ++ x :: r, pre.length + 1) true = some ([], t10 + 1 + (pre.length : Int), false) := by
          unfold F13j4
          rw [cond_true, hb1]
        simp only [e48, e49]
        unfold scan
        cases t12 with
        | false =>
          simp only [cond_false, Bool.false_and, Bool.false_eq_true, if_false]
          exact hj4 false (fun _ => rfl)
        | true =>
          simp only [cond_true, Bool.true_and]
          by_cases h48 : x = 48
          · subst h48
            simp only [bne_self_eq_false, cond_false, Bool.false_and, Bool.false_eq_true, if_false]
            exact hj4 true (fun e => absurd e (by decide))
          · rw [bne_iff_ne.2 h48, cond_true, Bool.true_and]
            by_cases h49 : x = 49
            · subst h49
              simp only [bne_self_eq_false, Bool.false_eq_true, if_false]
              exact hj4 true (fun e => absurd e (by decide))
            · rw [bne_iff_ne.2 h49, if_pos rfl, hbad]
      · obtain ⟨hc, q, r', hqr, hq, hq1, hqh⟩ := decR_high pre r x (by omega)
        generalize decR (pre ++ x :: r) pre.length = d at *
        obtain ⟨c, w⟩ := d
        simp only at hc hq ⊢
        subst hq
        have c48 : ((c : Int) != 48) = true := by rw [bne_iff_ne]; omega
        have c49 : ((c : Int) != 49) = true := by rw [bne_iff_ne]; omega
        have c47 : ((c : Int) == 47) = false := by rw [beq_eq_false_iff_ne]; omega
        have c126 : ((c : Int) == 126) = false := by rw [beq_eq_false_iff_ne]; omega
        rw [c48, c49]
        cases t12 with
        | true =>
          have x48 : (x != 48) = true := by rw [bne_iff_ne]; intro e; subst e; exact hx (by decide)
          have x49 : (x != 49) = true := by rw [bne_iff_ne]; intro e; subst e; exact hx (by decide)
          unfold scan F13j4
          simp only [cond_true, hb1, x48, x49, Bool.and_self, if_true]
        | false =>
          rw [hqr, scan_high q r' pre.length hqh]
          simp only [cond_false]
          unfold F13j4
          rw [cond_false, c47, c126, cond_false]
          have hlen := congrArg List.length hqr
          simp only [List.length_cons, List.length_append] at hlen hj hl hm
          have ih' := ih r' (pre ++ q) false m (by omega) (by rw [List.append_assoc, ← hqr]; simp; omega) (by omega)
          rw [List.append_assoc, List.length_append] at ih'
          exact ih'

end Go.Proofs.YtaeamjhgfhcjdaaDoor.Ab.Pt
