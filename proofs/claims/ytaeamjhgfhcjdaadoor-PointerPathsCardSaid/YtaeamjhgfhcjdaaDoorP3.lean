/- strings.ReplaceAll byte by byte; the tokens of a pointer as the document writes and reads them. -/
import Derived.Test.YtaeamjhgfhcjdaaDoorP2
import Derived.Lib.CountLaws
import Derived.Lib.Replace
import Derived.Laws.RangeAny
import Derived.Laws.RangeString
import Derived.Test.YtaeamjhgfhcjdaaDoorP1
namespace Go.Proofs.YtaeamjhgfhcjdaaDoor.Ab.Pt
open Go Go.RowKit Go.Proofs.YtaeamjhgfhcjdaaDoor.Ab
set_option maxRecDepth 100000
set_option linter.unusedVariables false
set_option linter.unusedSimpArgs false

/-! ### ReplaceAll -/

theorem ra_eq {s old new : List UInt8} (h : old ≠ new) : Lib.replaceAll s old new = Lib.replaceK old new (Lib.count s old) s := by
  unfold Lib.replaceAll Lib.replace Lib.replaceNum
  rw [if_neg (by simpa using h), if_pos (.inl (by decide))]

theorem ra_nil {old new : List UInt8} (h : old ≠ new) (h0 : old ≠ []) : Lib.replaceAll [] old new = [] := by
  rw [ra_eq h]
  have : Lib.index [] old = -1 := by
    unfold Lib.index
    cases old with
    | nil => exact absurd rfl h0
    | cons => rfl
  rw [Lib.count_miss this]; rfl

theorem ra_hit {s old new : List UInt8} (h : old ≠ new) (h0 : old ≠ []) (hp : old.isPrefixOf s = true) : Lib.replaceAll s old new = new ++ Lib.replaceAll (s.drop old.length) old new := by
  have hi : Lib.index s old = ((0 : Nat) : Int) := by
    cases s with
    | nil => cases old with
      | nil => exact absurd rfl h0
      | cons => cases hp
    | cons b l => unfold Lib.index; rw [if_pos hp]; rfl
  rw [ra_eq h, ra_eq h, Lib.count_hit h0 hi, Nat.add_comm, Lib.replaceK_hit _ _ _ _ _ hi, Nat.zero_add]
  simp

theorem ra_miss {x : UInt8} {r old new : List UInt8} (h : old ≠ new) (h0 : old ≠ []) (hp : old.isPrefixOf (x :: r) = false) : Lib.replaceAll (x :: r) old new = x :: Lib.replaceAll r old new := by
  have hstep : Lib.index (x :: r) old = if Lib.index r old == -1 then -1 else Lib.index r old + 1 := by
    conv => lhs; unfold Lib.index
    rw [hp]; rfl
  rw [ra_eq h, ra_eq h]
  have hge := Lib.index_ge r old
  by_cases hm : Lib.index r old = -1
  · rw [hm] at hstep
    have hs : Lib.index (x :: r) old = -1 := hstep
    rw [Lib.count_miss hs, Lib.count_miss hm]; rfl
  · obtain ⟨i, hi⟩ : ∃ i : Nat, Lib.index r old = i := ⟨(Lib.index r old).toNat, by omega⟩
    have hs : Lib.index (x :: r) old = ((i + 1 : Nat) : Int) := by
      rw [hstep, hi, if_neg (by simp)]; rfl
    rw [Lib.count_hit h0 hs, Lib.count_hit h0 hi]
    have e : (x :: r).drop (i + 1 + old.length) = r.drop (i + old.length) := by
      rw [show i + 1 + old.length = (i + old.length) + 1 by omega, List.drop_succ_cons]
    rw [e, Nat.add_comm 1, Lib.replaceK_hit _ _ _ _ _ hs, Lib.replaceK_hit _ _ _ _ _ hi, e]
    simp

theorem ra_one {a : UInt8} {new : List UInt8} (h : [a] ≠ new) : ∀ s : List UInt8, Lib.replaceAll s [a] new = s.flatMap fun x => if x = a then new else [x]
  | [] => ra_nil h (by simp)
  | x :: r => by
    by_cases hx : x = a
    · subst hx
      rw [ra_hit h (by simp) (by simp [List.isPrefixOf])]
      simp [ra_one h r]
    · rw [ra_miss h (by simp) (by simp [List.isPrefixOf]; exact fun e => hx e.symm)]
      simp [ra_one h r, hx]

/-- A token, as it is written. -/
def esc (t : List UInt8) : List UInt8 := t.flatMap fun x => if x = 126 then [126, 48] else if x = 47 then [126, 49] else [x]

theorem tokB_esc (t : List UInt8) : tokB t = esc t := by
  unfold tokB esc
  rw [ra_one (by decide), ra_one (by decide)]
  induction t with
  | nil => rfl
  | cons x t ih =>
    simp only [List.flatMap_cons, List.flatMap_append, ih]
    congr 1
    by_cases h : x = 126
    · subst h; decide
    · by_cases h2 : x = 47
      · subst h2; decide
      · simp [h, h2]

/-- A token, as it is meant. -/
def unesc : List UInt8 → List UInt8
  | [] => []
  | 126 :: 48 :: r => 126 :: unesc r
  | 126 :: 49 :: r => 47 :: unesc r
  | x :: r => x :: unesc r

/-- Behind each tilde stands a 0 or a 1. -/
def wf : List UInt8 → Bool
  | [] => true
  | [x] => x != 126
  | x :: y :: r => if x = 126 then (y == 48 || y == 49) && wf r else wf (y :: r)

theorem ra2_pre (a b x y : UInt8) (r : List UInt8) : [a, b].isPrefixOf (x :: y :: r) = (a == x && b == y) := by simp [List.isPrefixOf]

theorem F36_wf : ∀ (k : Nat) (s : List UInt8), s.length ≤ k → wf s = true → Lib.replaceAll (Lib.replaceAll s [126, 49] [47]) [126, 48] [126] = unesc s
  | _, [], _, _ => by rw [ra_nil (by decide) (by simp), ra_nil (by decide) (by simp)]; rfl
  | 0, _ :: _, h, _ => by simp at h
  | k + 1, [x], _, hw => by
    have hx : x ≠ 126 := by simpa [wf] using hw
    have h1 : Lib.replaceAll [x] [126, 49] [47] = [x] := by
      rw [ra_miss (by decide) (by simp) (by simp [List.isPrefixOf]), ra_nil (by decide) (by simp)]
    rw [h1, ra_miss (by decide) (by simp) (by simp [List.isPrefixOf]), ra_nil (by decide) (by simp)]
    unfold unesc
    split <;> simp_all [unesc]
  | k + 1, x :: y :: r, hk, hw => by
    have hkr : r.length ≤ k := by simp at hk; omega
    unfold wf at hw
    by_cases hx : x = 126
    · subst hx
      rw [if_pos rfl] at hw
      simp only [Bool.and_eq_true, Bool.or_eq_true, beq_iff_eq] at hw
      obtain ⟨hy | hy, hwr⟩ := hw
      · subst hy
        have ih := F36_wf k r hkr hwr
        have h1 : Lib.replaceAll (126 :: 48 :: r) [126, 49] [47] = 126 :: 48 :: Lib.replaceAll r [126, 49] [47] := by
          rw [ra_miss (by decide) (by simp) (by rw [ra2_pre]; decide)]
          congr 1
          cases r with
          | nil => rw [ra_miss (by decide) (by simp) (by decide)]
          | cons z r => rw [ra_miss (by decide) (by simp) (by rw [ra2_pre]; rfl)]
        rw [h1, ra_hit (by decide) (by simp) (by rw [ra2_pre]; decide)]
        simp only [List.length_cons, List.length_nil, List.drop_succ_cons, List.drop_zero, ih]
        rfl
      · subst hy
        have ih := F36_wf k r hkr hwr
        have h1 : Lib.replaceAll (126 :: 49 :: r) [126, 49] [47] = 47 :: Lib.replaceAll r [126, 49] [47] := by
          rw [ra_hit (by decide) (by simp) (by rw [ra2_pre]; decide)]
          rfl
        rw [h1]
        generalize Lib.replaceAll r [126, 49] [47] = q at *
        have h2 : Lib.replaceAll (47 :: q) [126, 48] [126] = 47 :: Lib.replaceAll q [126, 48] [126] :=
          ra_miss (by decide) (by simp) (by cases q <;> simp [List.isPrefixOf])
        rw [h2, ih]
        rfl
    · rw [if_neg hx] at hw
      have ih := F36_wf k (y :: r) (by simp at hk ⊢; omega) hw
      have hx' : (126 == x) = false := by simpa using fun e : (126 : UInt8) = x => hx e.symm
      have h1 : Lib.replaceAll (x :: y :: r) [126, 49] [47] = x :: Lib.replaceAll (y :: r) [126, 49] [47] :=
        ra_miss (by decide) (by simp) (by rw [ra2_pre, hx']; rfl)
      rw [h1]
      generalize Lib.replaceAll (y :: r) [126, 49] [47] = q at *
      have h2 : Lib.replaceAll (x :: q) [126, 48] [126] = x :: Lib.replaceAll q [126, 48] [126] :=
        ra_miss (by decide) (by simp) (by cases q <;> simp [List.isPrefixOf]; intro e; exact absurd e.symm hx)
      rw [h2, ih]
      conv => rhs; unfold unesc
      split <;> simp_all

theorem F36_eq (n : Nat) (s : List UInt8) (hs : s.length ≤ 100000) (hw : wf s = true) : F36 n s = some (unesc s) := by
  have h1 : F38 n s [126, 49] [47] = some (Lib.replaceAll s [126, 49] [47]) := by
    unfold F38
    have : (Nat.ble s.length 4000000 && Nat.ble 1 ([126, 49] : List UInt8).length && Nat.ble ([47] : List UInt8).length 1000000) = true := by
      simp [Nat.ble_eq]; omega
    rw [this]; rfl
  have hl := replaceAll_len s [126, 49] [47] (by simp)
  have h2 : F38 n (Lib.replaceAll s [126, 49] [47]) [126, 48] [126] = some (unesc s) := by
    unfold F38
    have : (Nat.ble (Lib.replaceAll s [126, 49] [47]).length 4000000 && Nat.ble 1 ([126, 48] : List UInt8).length && Nat.ble ([126] : List UInt8).length 1000000) = true := by
      simp only [List.length_cons, List.length_nil] at hl
      simp [Nat.ble_eq]; omega
    rw [this, cond_true, F36_wf s.length s (Nat.le_refl _) hw]
  unfold F36
  rw [h1]
  dsimp only
  rw [h2]

end Go.Proofs.YtaeamjhgfhcjdaaDoor.Ab.Pt

/- Parse, as the document says it and as the program does it. -/
namespace Go.Proofs.YtaeamjhgfhcjdaaDoor.Ab.Pt
open Go Go.RowKit Go.Proofs.YtaeamjhgfhcjdaaDoor.Ab
set_option maxRecDepth 100000
set_option linter.unusedVariables false
set_option linter.unusedSimpArgs false

/-! ### Texts, rune by rune -/

theorem get_list (s : List UInt8) (i : Nat) : (ByteArray.mk s.toArray).get! i = s.getD i 0 := by
  simp [ByteArray.get!, List.getD]
  rfl

theorem dec_wide (B : ByteArray) (i : Nat) : ∀ k, 1 ≤ k → k < (Utf8.decode B i).2 → i + k < B.size ∧ 128 ≤ (B.get! (i + k)).toNat := by
  have hc : ∀ j, (decide (i + j < B.size) && (B.get! (i + j)).toNat / 64 == 2) = true → i + j < B.size ∧ 128 ≤ (B.get! (i + j)).toNat := by
    intro j hj
    simp only [Bool.and_eq_true, decide_eq_true_eq, beq_iff_eq] at hj
    exact ⟨hj.1, by omega⟩
  intro k hk h
  unfold Utf8.decode at h
  dsimp only at h
  split at h
  · omega
  · split at h
    · rename_i hh
      simp only [Bool.and_eq_true] at hh
      split at h
      · obtain rfl : k = 1 := by simp only at h; omega
        exact hc 1 (by simpa using hh.2)
      · simp only at h; omega
    · split at h
      · rename_i hh
        simp only [Bool.and_eq_true] at hh
        split at h
        · have : k = 1 ∨ k = 2 := by simp only at h; omega
          rcases this with rfl | rfl
          · exact hc 1 (by simpa using hh.1.2)
          · exact hc 2 (by simpa using hh.2)
        · simp only at h; omega
      · split at h
        · rename_i hh
          simp only [Bool.and_eq_true] at hh
          split at h
          · have : k = 1 ∨ k = 2 ∨ k = 3 := by simp only at h; omega
            rcases this with rfl | rfl | rfl
            · exact hc 1 (by simpa using hh.1.1.2)
            · exact hc 2 (by simpa using hh.1.2)
            · exact hc 3 (by simpa using hh.2)
          · simp only at h; omega
        · simp only at h; omega

theorem decR_low (pre r : List UInt8) (x : UInt8) (h : x.toNat < 128) : decR (pre ++ x :: r) pre.length = (x.toNat, 1) := by
  unfold decR
  have hs : pre.length < (ByteArray.mk (pre ++ x :: r).toArray).size := by simp [ByteArray.size]
  have hx : (ByteArray.mk (pre ++ x :: r).toArray)[pre.length]'hs = x := by
    show ((pre ++ x :: r).toArray)[pre.length]'_ = x
    simp
  have := Go.decode_ascii (ByteArray.mk (pre ++ x :: r).toArray) pre.length hs (by rw [hx]; exact h)
  rw [hx] at this
  exact this

theorem decR_high (pre r : List UInt8) (x : UInt8) (h : 128 ≤ x.toNat) : 128 ≤ (decR (pre ++ x :: r) pre.length).1 ∧
    ∃ q r', x :: r = q ++ r' ∧ q.length = (decR (pre ++ x :: r) pre.length).2 ∧ 1 ≤ q.length ∧ ∀ y ∈ q, 128 ≤ y.toNat := by
  unfold decR
  have hs : pre.length < (ByteArray.mk (pre ++ x :: r).toArray).size := by simp [ByteArray.size]
  have hx : (ByteArray.mk (pre ++ x :: r).toArray)[pre.length]'hs = x := by
    show ((pre ++ x :: r).toArray)[pre.length]'_ = x
    simp
  obtain ⟨h1, h2⟩ := Go.decode_high (ByteArray.mk (pre ++ x :: r).toArray) pre.length hs (by rw [hx]; exact h)
  have hw := dec_wide (ByteArray.mk (pre ++ x :: r).toArray) pre.length
  generalize Utf8.decode (ByteArray.mk (pre ++ x :: r).toArray) pre.length = d at *
  obtain ⟨c, w⟩ := d
  simp only at h1 h2 hw ⊢
  have key : ∀ k, k < w → k < (x :: r).length ∧ 128 ≤ ((x :: r).getD k 0).toNat := by
    intro k hk
    by_cases h0 : k = 0
    · subst h0; exact ⟨by simp, by simpa using h⟩
    · obtain ⟨a, b⟩ := hw k (by omega) hk
      rw [get_list] at b
      have a' : pre.length + k < (pre ++ x :: r).length := a
      refine ⟨by simp at a' ⊢; omega, ?_⟩
      simpa [List.getD, List.getElem?_append_right] using b
  refine ⟨h1, (x :: r).take w, (x :: r).drop w, (List.take_append_drop _ _).symm, ?_, ?_, ?_⟩
  · have := (key (w - 1) (by omega)).1
    rw [List.length_take]; omega
  · have := (key (w - 1) (by omega)).1
    rw [List.length_take]; omega
  · intro y hy
    obtain ⟨k, hk, rfl⟩ := List.mem_iff_getElem.1 hy
    have hk' : k < w := by rw [List.length_take] at hk; omega
    obtain ⟨a, b⟩ := key k hk'
    rw [List.getElem_take]
    rwa [List.getD_eq_getElem?_getD, List.getElem?_eq_getElem a] at b

/-! ### A segment -/

inductive Sc where
  | bad (k : Nat) | slash (k : Nat) | fin (t : Bool)

def scan : List UInt8 → Bool → Nat → Sc
  | [], t, _ => .fin t
  | x :: r, t, pos => if t && x != 48 && x != 49 then .bad pos else if x = 47 then .slash pos else scan r (x == 126) (pos + 1)

theorem scan_high : ∀ (q r : List UInt8) (pos : Nat), (∀ y ∈ q, 128 ≤ y.toNat) → scan (q ++ r) false pos = scan r false (pos + q.length)
  | [], r, pos, _ => rfl
  | x :: q, r, pos, h => by
    have hx := h x (by simp)
    have h47 : x ≠ 47 := fun e => by subst e; revert hx; decide
    have h126 : (x == 126) = false := by
      rw [beq_eq_false_iff_ne]; intro e; subst e; revert hx; decide
    have ih := scan_high q r (pos + 1) (fun y hy => h y (by simp [hy]))
    simp only [List.cons_append, scan, Bool.false_and, Bool.false_eq_true, if_false, h47, h126, ih, List.length_cons]
    congr 1; omega

abbrev PRes := List (List UInt8) × Int × Bool

theorem F13_inner (n : Nat) (r0 : Int → Bool → List (List UInt8) → List UInt8 → Int → Option PRes) (t6 : Int) (t7 : Bool) (t8 : List (List UInt8)) (t9 : List UInt8) (t10 t11 : Int) (h10 : 0 ≤ t10 ∧ t10 ≤ 1000000) :
    ∀ (j : Nat) (l pre : List UInt8) (t12 : Bool) (m : Nat), l.length ≤ j → (pre ++ l).length ≤ 1000000 → l.length + 1 ≤ m →
    F13l3 n r0 m t6 t7 t8 t9 t10 t11 t12 (pre ++ l, pre.length) = match scan l t12 pre.length with
      | .bad k => some ([], t10 + 1 + (k : Int), false)
      | .slash k => F13j1 n r0 t6 t7 t8 t9 t10 (1 + (k : Int)) false
      | .fin t => F13j1 n r0 t6 t7 t8 t9 t10 t11 t := by
  intro j
  induction j with
  | zero =>
    intro l pre t12 m hj hl hm
    have : l = [] := List.length_eq_zero_iff.1 (by omega)
    subst this
    obtain ⟨m, rfl⟩ : ∃ j, m = j + 1 := ⟨m - 1, by omega⟩
    have hf : Nat.ble (pre.length + 1) pre.length = false := by rw [Bool.eq_false_iff]; intro h; have := Nat.le_of_ble_eq_true h; omega
    simp [F13l3, F13l3F, scan, Nat.blt, hf]
  | succ j ih =>
    intro l pre t12 m hj hl hm
    obtain ⟨m, rfl⟩ : ∃ j, m = j + 1 := ⟨m - 1, by omega⟩
    cases l with
    | nil =>
      have hf : Nat.ble (pre.length + 1) pre.length = false := by rw [Bool.eq_false_iff]; intro h; have := Nat.le_of_ble_eq_true h; omega
      simp [F13l3, F13l3F, scan, Nat.blt, hf]
    | cons x r =>
      have hb : Nat.blt pre.length (pre ++ x :: r).length = true := by simp [Nat.blt, Nat.ble_eq]
      have hpl : pre.length ≤ 1000000 := by simp at hl; omega
      have hb1 : IntKind.wrap .i64 ((IntKind.wrap .i64 (t10 + 1)) + (pre.length : Int)) = t10 + 1 + (pre.length : Int) := by
        rw [wrap64 (x := t10 + 1) (by omega) (by omega), wrap64 (by omega) (by omega)]
      have hb2 : IntKind.wrap .i64 (1 + (pre.length : Int)) = 1 + (pre.length : Int) := wrap64 (by omega) (by omega)
      unfold F13l3 F13l3F
      rw [hb]
      simp only [cond_true]
      by_cases hx : x.toNat < 128
      · rw [decR_low pre r x hx]
        have ih' := ih r (pre ++ [x]) (x == 126) m (by simp at hj; omega) (by simpa using hl) (by simp at hm; omega)
        simp only [List.append_assoc, List.singleton_append, List.length_append, List.length_singleton] at ih'
        have e48 : (((x.toNat : Int)) != 48) = (x != 48) := by
          by_cases e : x = 48
          · subst e; rfl
          · have : x.toNat ≠ 48 := fun h => e (UInt8.toNat_inj.1 (h.trans (by decide)))
            rw [bne_iff_ne.2 e, bne_iff_ne.2 (by omega)]
        have e49 : (((x.toNat : Int)) != 49) = (x != 49) := by
          by_cases e : x = 49
          · subst e; rfl
          · have : x.toNat ≠ 49 := fun h => e (UInt8.toNat_inj.1 (h.trans (by decide)))
            rw [bne_iff_ne.2 e, bne_iff_ne.2 (by omega)]
        have e47 : ((x.toNat : Int) == 47) = decide (x = 47) := by
          by_cases e : x = 47
          · subst e; rfl
          · have : x.toNat ≠ 47 := fun h => e (UInt8.toNat_inj.1 (h.trans (by decide)))
            rw [decide_eq_false e, beq_eq_false_iff_ne.2 (by omega)]
        have e126 : ((x.toNat : Int) == 126) = (x == 126) := by
          by_cases e : x = 126
          · subst e; rfl
          · have : x.toNat ≠ 126 := fun h => e (UInt8.toNat_inj.1 (h.trans (by decide)))
            rw [beq_eq_false_iff_ne.2 e, beq_eq_false_iff_ne.2 (by omega)]
        have hj4 : ∀ t12' : Bool, (x = 47 → t12' = false) → F13j4 n r0 (F13l3 n r0 m) t6 t7 t8 t9 t10 t11 t12' (pre.length : Int) (x.toNat : Int) (pre ++ x :: r, pre.length + 1) false =
            match (if x = 47 then Sc.slash pre.length else scan r (x == 126) (pre.length + 1)) with
            | .bad k => some ([], t10 + 1 + (k : Int), false)
            | .slash k => F13j1 n r0 t6 t7 t8 t9 t10 (1 + (k : Int)) false
            | .fin t => F13j1 n r0 t6 t7 t8 t9 t10 t11 t := by
          intro t12' ht
          unfold F13j4
          rw [cond_false, e47, e126, hb2]
          by_cases h47 : x = 47
          · rw [decide_eq_true h47, cond_true, if_pos h47, ht h47]
          · rw [decide_eq_false h47, cond_false, if_neg h47]
            exact ih'
        have hbad : F13j4 n r0 (F13l3 n r0 m) t6 t7 t8 t9 t10 t11 t12 (pre.length : Int) (x.toNat : Int) (pre ++ x :: r, pre.length + 1) true = some ([], t10 + 1 + (pre.length : Int), false) := by
          unfold F13j4
          rw [cond_true, hb1]
        simp only [e48, e49]
        unfold scan
        cases t12 with
        | false =>
          simp only [cond_false, Bool.false_and, Bool.false_eq_true, if_false]
          exact hj4 false (fun _ => rfl)
        | true =>
          simp only [cond_true, Bool.true_and]
          by_cases h48 : x = 48
          · subst h48
            simp only [bne_self_eq_false, cond_false, Bool.false_and, Bool.false_eq_true, if_false]
            exact hj4 true (fun e => absurd e (by decide))
          · rw [bne_iff_ne.2 h48, cond_true, Bool.true_and]
            by_cases h49 : x = 49
            · subst h49
              simp only [bne_self_eq_false, Bool.false_eq_true, if_false]
              exact hj4 true (fun e => absurd e (by decide))
            · rw [bne_iff_ne.2 h49, if_pos rfl, hbad]
      · obtain ⟨hc, q, r', hqr, hq, hq1, hqh⟩ := decR_high pre r x (by omega)
        generalize decR (pre ++ x :: r) pre.length = d at *
        obtain ⟨c, w⟩ := d
        simp only at hc hq ⊢
        subst hq
        have c48 : ((c : Int) != 48) = true := by rw [bne_iff_ne]; omega
        have c49 : ((c : Int) != 49) = true := by rw [bne_iff_ne]; omega
        have c47 : ((c : Int) == 47) = false := by rw [beq_eq_false_iff_ne]; omega
        have c126 : ((c : Int) == 126) = false := by rw [beq_eq_false_iff_ne]; omega
        rw [c48, c49]
        cases t12 with
        | true =>
          have x48 : (x != 48) = true := by rw [bne_iff_ne]; intro e; subst e; exact hx (by decide)
          have x49 : (x != 49) = true := by rw [bne_iff_ne]; intro e; subst e; exact hx (by decide)
          unfold scan F13j4
          simp only [cond_true, hb1, x48, x49, Bool.and_self, if_true]
        | false =>
          rw [hqr, scan_high q r' pre.length hqh]
          simp only [cond_false]
          unfold F13j4
          rw [cond_false, c47, c126, cond_false]
          have hlen := congrArg List.length hqr
          simp only [List.length_cons, List.length_append] at hlen hj hl hm
          have ih' := ih r' (pre ++ q) false m (by omega) (by rw [List.append_assoc, ← hqr]; simp; omega) (by omega)
          rw [List.append_assoc, List.length_append] at ih'
          exact ih'

end Go.Proofs.YtaeamjhgfhcjdaaDoor.Ab.Pt

/- Parse: one answer for both. -/
namespace Go.Proofs.YtaeamjhgfhcjdaaDoor.Ab.Pt
open Go Go.RowKit Go.Proofs.YtaeamjhgfhcjdaaDoor.Ab
set_option maxRecDepth 100000
set_option linter.unusedVariables false
set_option linter.unusedSimpArgs false

inductive PR where
  | bad (k : Nat) | tend | ok (out : List (List UInt8))

/-- Of the bytes behind a pointer's first sign: what is read so far of a token, and the tokens ahead of it. -/
def R : List UInt8 → Nat → List UInt8 → List (List UInt8) → PR
  | [], _, cur, ds => .ok (ds ++ [cur])
  | [x], i, cur, ds => if x = 47 then .ok (ds ++ [cur] ++ [[]]) else if x = 126 then .tend else .ok (ds ++ [cur ++ [x]])
  | x :: y :: r, i, cur, ds => if x = 47 then R (y :: r) (i + 1) [] (ds ++ [cur]) else if x = 126 then (if y = 48 then R r (i + 2) (cur ++ [126]) ds else if y = 49 then R r (i + 2) (cur ++ [47]) ds else .bad (i + 1)) else R (y :: r) (i + 1) (cur ++ [x]) ds

theorem R_slash (r : List UInt8) (i : Nat) (cur : List UInt8) (ds : List (List UInt8)) : R (47 :: r) i cur ds = R r (i + 1) [] (ds ++ [cur]) := by
  cases r <;> simp [R]
theorem R_plain {x : UInt8} (r : List UInt8) (i : Nat) (cur : List UInt8) (ds : List (List UInt8)) (h1 : x ≠ 47) (h2 : x ≠ 126) : R (x :: r) i cur ds = R r (i + 1) (cur ++ [x]) ds := by
  cases r <;> simp [R, h1, h2]
theorem R_0 (r : List UInt8) (i : Nat) (cur : List UInt8) (ds : List (List UInt8)) : R (126 :: 48 :: r) i cur ds = R r (i + 2) (cur ++ [126]) ds := by simp [R]
theorem R_1 (r : List UInt8) (i : Nat) (cur : List UInt8) (ds : List (List UInt8)) : R (126 :: 49 :: r) i cur ds = R r (i + 2) (cur ++ [47]) ds := by simp [R]
theorem R_bad {y : UInt8} (r : List UInt8) (i : Nat) (cur : List UInt8) (ds : List (List UInt8)) (h1 : y ≠ 48) (h2 : y ≠ 49) : R (126 :: y :: r) i cur ds = .bad (i + 1) := by simp [R, h1, h2]
theorem R_tend (i : Nat) (cur : List UInt8) (ds : List (List UInt8)) : R [126] i cur ds = .tend := by simp [R]

theorem wf_cons {x : UInt8} (h : x ≠ 126) (s : List UInt8) : wf (x :: s) = wf s := by
  cases s <;> simp [wf, h]
theorem wf_0 (s : List UInt8) : wf (126 :: 48 :: s) = wf s := by simp [wf]
theorem wf_1 (s : List UInt8) : wf (126 :: 49 :: s) = wf s := by simp [wf]
theorem unesc_cons {x : UInt8} (h : x ≠ 126) (s : List UInt8) : unesc (x :: s) = x :: unesc s := by
  conv => lhs; unfold unesc
  split <;> simp_all
theorem unesc_0 (s : List UInt8) : unesc (126 :: 48 :: s) = 126 :: unesc s := rfl
theorem unesc_1 (s : List UInt8) : unesc (126 :: 49 :: s) = 47 :: unesc s := rfl

/-- What a segment's scan says of the reading. -/
def ScanOK (l : List UInt8) (pos : Nat) : Sc → Prop
  | .bad k => pos ≤ k ∧ ∀ i cur ds, R l i cur ds = .bad (i + (k - pos))
  | .slash k => pos ≤ k ∧ ∃ seg r, l = seg ++ 47 :: r ∧ seg.length = k - pos ∧ wf seg = true ∧ ∀ i cur ds, R l i cur ds = R r (i + (k - pos) + 1) [] (ds ++ [cur ++ unesc seg])
  | .fin true => ∀ i cur ds, R l i cur ds = .tend
  | .fin false => wf l = true ∧ ∀ i cur ds, R l i cur ds = .ok (ds ++ [cur ++ unesc l])

/-- Behind some bytes that stand for one. -/
theorem ScanOK.behind {p : List UInt8} {z : UInt8} {l : List UInt8} {pos : Nat} (hR : ∀ r i cur ds, R (p ++ r) i cur ds = R r (i + p.length) (cur ++ [z]) ds) (hw : ∀ s, wf (p ++ s) = wf s) (hu : ∀ s, unesc (p ++ s) = z :: unesc s) :
    ∀ {sc : Sc}, ScanOK l (pos + p.length) sc → ScanOK (p ++ l) pos sc
  | .bad k, h => ⟨by have := h.1; omega, fun i cur ds => by
      rw [hR, h.2]; congr 1; have := h.1; omega⟩
  | .slash k, h => by
    obtain ⟨h1, seg, r, rfl, h3, h4, h5⟩ := h
    refine ⟨by omega, p ++ seg, r, by simp, by rw [List.length_append]; omega, by rw [hw, h4], fun i cur ds => ?_⟩
    rw [hR, h5, hu]
    simp only [List.append_assoc, List.singleton_append]
    congr 1; omega
  | .fin true, h => fun i cur ds => by rw [hR]; exact h _ _ _
  | .fin false, h => ⟨by rw [hw]; exact h.1, fun i cur ds => by rw [hR, h.2, hu]; simp⟩

theorem scan_R : ∀ (j : Nat) (l : List UInt8) (pos : Nat), l.length ≤ j → ScanOK l pos (scan l false pos)
  | _, [], pos, _ => ⟨rfl, fun i cur ds => by simp [R, unesc]⟩
  | 0, _ :: _, _, h => by simp at h
  | j + 1, x :: l, pos, h => by
    have hl : l.length ≤ j := by simp at h; omega
    unfold scan
    simp only [Bool.false_and, Bool.false_eq_true, if_false]
    by_cases h47 : x = 47
    · subst h47
      rw [if_pos rfl]
      exact ⟨Nat.le_refl _, [], l, rfl, by simp, rfl, fun i cur ds => by simp [R_slash, unesc]⟩
    · rw [if_neg h47]
      by_cases h126 : x = 126
      · subst h126
        rw [show ((126 : UInt8) == 126) = true from rfl]
        cases l with
        | nil => exact fun i cur ds => R_tend _ _ _
        | cons y r =>
          have hr : r.length ≤ j := by simp at hl; omega
          unfold scan
          by_cases h48 : y = 48
          · subst h48
            have := scan_R j r (pos + 2) hr
            exact ScanOK.behind (p := [126, 48]) (z := 126) (fun r i cur ds => R_0 _ _ _ _) wf_0 unesc_0 this
          · by_cases h49 : y = 49
            · subst h49
              have := scan_R j r (pos + 2) hr
              exact ScanOK.behind (p := [126, 49]) (z := 47) (fun r i cur ds => R_1 _ _ _ _) wf_1 unesc_1 this
            · have : (true && y != 48 && y != 49) = true := by rw [bne_iff_ne.2 h48, bne_iff_ne.2 h49]; rfl
              rw [if_pos this]
              exact ⟨by omega, fun i cur ds => by rw [R_bad _ _ _ _ h48 h49]; congr 1; omega⟩
      · have : (x == 126) = false := beq_eq_false_iff_ne.2 h126
        rw [this]
        exact ScanOK.behind (p := [x]) (z := x) (fun r i cur ds => R_plain _ _ _ _ h47 h126) (wf_cons h126) (unesc_cons h126) (scan_R j l (pos + 1) hl)

/-! ### pointer.Parse -/

def done13 (t6 : Int) (t7 : Bool) : PR → PRes
  | .bad k => ([], (k : Int), false)
  | .tend => ([], t6, false)
  | .ok out => if t7 then (out, t6, true) else ([], t6, false)

theorem room16 (m : Nat) (h : m ≤ 200000) : (decide (m * 16 ≤ maxRoom) && decide (m ≤ maxRoom)) = true := by
  rw [Bool.and_eq_true, decide_eq_true_eq, decide_eq_true_eq]
  unfold maxRoom
  omega

theorem F13_step2 (n : Nat) (r0 : Int → Bool → List (List UInt8) → List UInt8 → Int → Option PRes) (t6 : Int) (t7 : Bool) (t8 : List (List UInt8)) (seg r : List UInt8) (at' : Nat) (hw : wf seg = true) (hl : (seg ++ r).length ≤ 90000) (h8 : t8.length ≤ 90000) (ha : at' ≤ 90000) :
    F13j2 n r0 t6 t7 t8 (47 :: (seg ++ r)) (at' : Int) (1 + (seg.length : Int)) = r0 t6 t7 (t8 ++ [unesc seg]) r ((at' + 1 + seg.length : Nat) : Int) := by
  simp only [List.length_append] at hl
  have c1 : cutB 1 (1 + (seg.length : Int)) (47 :: (seg ++ r)).length = true := by simp [cutB]; omega
  have c2 : cutB (1 + (seg.length : Int)) ((47 :: (seg ++ r)).length : Int) (47 :: (seg ++ r)).length = true := by simp [cutB]; omega
  have e1 : (((47 :: (seg ++ r)).drop (Int.toNat 1)).take (Int.toNat (1 + (seg.length : Int)) - Int.toNat 1)) = seg := by
    rw [show Int.toNat (1 + (seg.length : Int)) - Int.toNat 1 = seg.length by omega]
    simp
  have e2 : (((47 :: (seg ++ r)).drop (Int.toNat (1 + (seg.length : Int)))).take (Int.toNat ((47 :: (seg ++ r)).length : Int) - Int.toNat (1 + (seg.length : Int)))) = r := by
    rw [show Int.toNat (1 + (seg.length : Int)) = seg.length + 1 by omega, List.drop_succ_cons]
    simp
    apply List.take_of_length_le
    omega
  unfold F13j2
  rw [c1, e1, F36_eq n seg (by omega) hw, c2, e2]
  have hr := room16 (t8.length + ([unesc seg] : List (List UInt8)).length) (by simp; omega)
  simp only [cond_true, hr]
  rw [wrap64 (by omega) (by omega)]
  congr 1
  omega

theorem F13_loop (n : Nat) : ∀ (j : Nat) (s : List UInt8) (at' : Nat) (t6 : Int) (t7 : Bool) (t8 : List (List UInt8)) (m : Nat), s.length ≤ j → t6 = ((at' + 1 + s.length : Nat) : Int) → at' + 1 + s.length ≤ 80000 → t8.length ≤ at' → s.length + 2 ≤ m → s.length + 2 ≤ n →
    F13l0 n m t6 t7 t8 (47 :: s) (at' : Int) = some (done13 t6 t7 (R s (at' + 1) [] t8)) := by
  intro j
  induction j with
  | zero =>
    intro s at' t6 t7 t8 m hj h6 hb h8 hm hn
    have : s = [] := List.length_eq_zero_iff.1 (by omega)
    subst this
    obtain ⟨m, rfl⟩ : ∃ j, m = j + 2 := ⟨m - 2, by simp at hm; omega⟩
    have hlt : decide ((at' : Int) < t6) = true := decide_eq_true (by rw [h6]; simp; omega)
    have hin := F13_inner n (F13l0 n (m + 1)) t6 t7 t8 [47] (at' : Int) 1 (by omega) 0 [] [] false n (by simp) (by simp) (by simp at hn ⊢; omega)
    have h2 := F13_step2 n (F13l0 n (m + 1)) t6 t7 t8 [] [] at' rfl (by simp) (by omega) (by omega)
    have hge : decide (((at' + 1 + ([] : List UInt8).length : Nat) : Int) < t6) = false := decide_eq_false (by rw [h6]; omega)
    rw [F13l0, F13l0F, hlt]
    have i0 : inB 0 ([47] : List UInt8).length = true := rfl
    have b47 : (((([47] : List UInt8).getD (Int.toNat 0) 0).toNat : Int) != 47) = false := rfl
    have c1 : cutB 1 (([47] : List UInt8).length : Int) ([47] : List UInt8).length = true := rfl
    simp only [i0, b47, c1, cond_true, cond_false]
    have e : ((([47] : List UInt8).drop (Int.toNat 1)).take (Int.toNat (([47] : List UInt8).length : Int) - Int.toNat 1)) = [] := rfl
    rw [e]
    refine Eq.trans hin ?_
    simp only [scan]
    unfold F13j1
    rw [cond_false]
    refine Eq.trans h2 ?_
    rw [F13l0, F13l0F, hge]
    simp only [cond_false, R, unesc, done13]
    cases t7 <;> simp
  | succ j ih =>
    intro s at' t6 t7 t8 m hj h6 hb h8 hm hn
    obtain ⟨m, rfl⟩ : ∃ j, m = j + 2 := ⟨m - 2, by omega⟩
    have hlt : decide ((at' : Int) < t6) = true := decide_eq_true (by rw [h6]; omega)
    have hin := F13_inner n (F13l0 n (m + 1)) t6 t7 t8 (47 :: s) (at' : Int) ((47 :: s).length : Int) (by omega) s.length s [] false n (Nat.le_refl _) (by simp; omega) (by omega)
    have i0 : inB 0 (47 :: s).length = true := by simp [inB]
    have b47 : ((((47 :: s).getD (Int.toNat 0) 0).toNat : Int) != 47) = false := by simp
    have c1 : cutB 1 ((47 :: s).length : Int) (47 :: s).length = true := by simp [cutB]; omega
    have e : ((((47 :: s)).drop (Int.toNat 1)).take (Int.toNat ((47 :: s).length : Int) - Int.toNat 1)) = s := by simp
    rw [F13l0, F13l0F, hlt, i0, b47, c1, e]
    simp only [cond_true, cond_false]
    refine Eq.trans hin ?_
    have hsc := scan_R s.length s 0 (Nat.le_refl _)
    rw [List.length_nil]
    cases hs : scan s false 0 with
    | bad k =>
      rw [hs] at hsc
      have := hsc.2 (at' + 1) [] t8
      simp only [this, done13]
      simp
    | slash k =>
      rw [hs] at hsc
      obtain ⟨_, seg, r, rfl, h3, h4, h5⟩ := hsc
      simp only [Nat.sub_zero] at h3 h5
      subst h3
      simp only
      unfold F13j1
      rw [cond_false]
      simp only [List.length_append, List.length_cons] at hb hj hm hn h6
      refine (F13_step2 n _ t6 t7 t8 seg (47 :: r) at' h4 (by simp; omega) (by omega) (by omega)).trans ?_
      rw [h5]
      have := ih r (at' + 1 + seg.length) t6 t7 (t8 ++ [unesc seg]) (m + 1) (by omega) (by rw [h6]; congr 1; omega) (by omega) (by simp; omega) (by omega) (by omega)
      rw [this]
      rfl
    | fin t =>
      rw [hs] at hsc
      cases t with
      | true =>
        have := hsc (at' + 1) [] t8
        simp only [this, done13]
        unfold F13j1
        simp
      | false =>
        have h5 := hsc.2 (at' + 1) [] t8
        simp only [h5, done13]
        unfold F13j1
        rw [cond_false]
        have h2 := F13_step2 n (F13l0 n (m + 1)) t6 t7 t8 s [] at' hsc.1 (by simp; omega) (by omega) (by omega)
        rw [List.append_nil] at h2
        rw [show (((47 :: s).length : Nat) : Int) = 1 + (s.length : Int) by simp; omega]
        refine h2.trans ?_
        have hge : decide (((at' + 1 + s.length : Nat) : Int) < t6) = false := decide_eq_false (by rw [h6]; omega)
        rw [F13l0, F13l0F, hge]
        cases t7 <;> simp

/-- What is told of a text. -/
def parseS (p : List UInt8) : PRes :=
  let u := U (bytesOf p) 0 [] 0 0 0
  match p.take u.2.1 with
  | [] => ([], (u.2.1 : Int), u.2.2)
  | x :: l => if x = 47 then done13 (u.2.1 : Int) u.2.2 (R l 1 [] []) else ([], 0, false)

theorem U_le : ∀ (l : List Int) (pos : Nat) (acc : List Int) (k : Nat) (f c : Int), pos ≤ (U l pos acc k f c).2.1 ∧ (U l pos acc k f c).2.1 ≤ pos + l.length ∧ ((U l pos acc k f c).2.2 = true → (U l pos acc k f c).2.1 = pos + l.length)
  | [], pos, acc, k, f, c => by unfold U; split <;> simp
  | x :: l, pos, acc, k, f, c => by
    have h := fun acc k f c => U_le l (pos + 1) acc k f c
    unfold U
    simp only [List.length_cons]
    split
    · split
      · obtain ⟨h1, h2, h3⟩ := h (acc ++ [x]) 0 f c; exact ⟨by omega, by omega, fun e => by have := h3 e; omega⟩
      · split
        · simp
        · obtain ⟨h1, h2, h3⟩ := h acc 1 x (lead x); exact ⟨by omega, by omega, fun e => by have := h3 e; omega⟩
    · split
      · split
        · obtain ⟨h1, h2, h3⟩ := h acc (k + 1) f (c * 64 + (x - 128)); exact ⟨by omega, by omega, fun e => by have := h3 e; omega⟩
        · obtain ⟨h1, h2, h3⟩ := h (acc ++ [c * 64 + (x - 128)]) 0 f (c * 64 + (x - 128)); exact ⟨by omega, by omega, fun e => by have := h3 e; omega⟩
      · simp

theorem bytes_isB (p : List UInt8) : ∀ x ∈ bytesOf p, isB x := by
  intro x hx
  obtain ⟨b, _, rfl⟩ := List.mem_map.1 hx
  have := byte_lt b
  exact ⟨by omega, by omega⟩

theorem bytes_len (p : List UInt8) : (bytesOf p).length = p.length := by simp [bytesOf]

theorem F13_eq (n : Nat) (p : List UInt8) (hp : p.length ≤ 70000) (hn : p.length + 10 ≤ n) : F13 n p = some (parseS p) := by
  unfold F13
  rw [F35_eq n _ (bytes_isB p) (by rw [bytes_len]; omega) (by rw [bytes_len]; omega)]
  obtain ⟨u1, u2, u3⟩ := U_le (bytesOf p) 0 [] 0 0 0
  rw [bytes_len, Nat.zero_add] at u2 u3
  unfold parseS
  generalize U (bytesOf p) 0 [] 0 0 0 = u at *
  obtain ⟨rs, k, ok⟩ := u
  simp only [outU] at u2 u3 ⊢
  have hc : cutB 0 (k : Int) p.length = true := by simp [cutB]; omega
  have ht : (((p).drop (Int.toNat 0)).take (Int.toNat (k : Int) - Int.toNat 0)) = p.take k := by simp
  have hlen : (p.take k).length = k := by rw [List.length_take]; omega
  rw [hc, ht, cond_true]
  obtain ⟨n', rfl⟩ : ∃ j, n = j + 1 := ⟨n - 1, by omega⟩
  cases hq : p.take k with
  | nil =>
    rw [hq] at hlen
    simp at hlen
    subst hlen
    rw [F13l0, F13l0F]
    cases ok <;> simp
  | cons x l =>
    rw [hq] at hlen
    simp only [List.length_cons] at hlen
    simp only
    by_cases h47 : x = 47
    · subst h47
      rw [if_pos rfl]
      have := F13_loop (n' + 1) l.length l 0 (k : Int) ok [] (n' + 1) (Nat.le_refl _) (by omega) (by omega) (by simp) (by omega) (by omega)
      exact this
    · rw [if_neg h47, F13l0, F13l0F]
      have hlt : decide ((0 : Int) < (k : Int)) = true := decide_eq_true (by omega)
      have i0 : inB 0 (x :: l).length = true := by simp [inB]
      have b47 : ((((x :: l).getD (Int.toNat 0) 0).toNat : Int) != 47) = true := by
        have : x.toNat ≠ 47 := fun h => h47 (UInt8.toNat_inj.1 (h.trans (by decide)))
        simp [bne_iff_ne]; omega
      rw [hlt, i0, b47]
      rfl

end Go.Proofs.YtaeamjhgfhcjdaaDoor.Ab.Pt

/- The document's Parse and Print; rows of texts compared. -/
namespace Go.Proofs.YtaeamjhgfhcjdaaDoor.Ab.Pt
open Go Go.RowKit Go.Proofs.YtaeamjhgfhcjdaaDoor.Ab
set_option maxRecDepth 100000
set_option linter.unusedVariables false
set_option linter.unusedSimpArgs false

theorem last_ix (ds : List (List UInt8)) (cur : List UInt8) (h : ds.length ≤ 100000) : IntKind.wrap .i64 (((ds ++ [cur]).length : Int) - 1) = (ds.length : Int) := by
  simp only [List.length_append, List.length_singleton]
  rw [wrap64 (by omega) (by omega)]
  omega

theorem last_in (ds : List (List UInt8)) (cur : List UInt8) : inB (ds.length : Int) (ds ++ [cur]).length = true := inB_pre ds cur []
theorem last_get (ds : List (List UInt8)) (cur d : List UInt8) : (ds ++ [cur]).getD (Int.toNat (ds.length : Int)) d = cur := getD_pre ds cur d []
theorem last_set (ds : List (List UInt8)) (cur v : List UInt8) : (ds ++ [cur]).set (Int.toNat (ds.length : Int)) v = ds ++ [v] := by simp

theorem byte_ne {x : UInt8} {k : Nat} (hk : k < 256) (h : x ≠ UInt8.ofNat k) : ((x.toNat : Int) == (k : Int)) = false := by
  rw [beq_eq_false_iff_ne]
  intro e
  apply h
  apply UInt8.toNat_inj.1
  rw [UInt8.toNat_ofNat']
  omega

theorem F14_loop (n : Nat) (p suf : List UInt8) (t6 : Int) (t7 : Bool) (hp : p.length ≤ 70000) (hs : t7 = true → suf = []) :
    ∀ (j : Nat) (l pre : List UInt8) (cur : List UInt8) (ds : List (List UInt8)) (m : Nat), l.length ≤ j → p = pre ++ (l ++ suf) → t6 = (((pre ++ l).length : Nat) : Int) → 1 ≤ pre.length → ds.length ≤ pre.length → cur.length ≤ pre.length → l.length + 1 ≤ m →
    F14l0 n m p t6 t7 (ds ++ [cur]) (pre.length : Int) = some (done13 t6 t7 (R l pre.length cur ds)) := by
  intro j
  induction j with
  | zero =>
    intro l pre cur ds m hj hpl h6 h1 hd hc hm
    have : l = [] := List.length_eq_zero_iff.1 (by omega)
    subst this
    obtain ⟨m, rfl⟩ : ∃ j, m = j + 1 := ⟨m - 1, by simp at hm; omega⟩
    have hge : decide ((pre.length : Int) < t6) = false := decide_eq_false (by rw [h6]; simp)
    rw [F14l0, F14l0F, hge]
    simp only [cond_false, R, done13]
    cases t7 with
    | false => rfl
    | true =>
      have : suf = [] := hs rfl
      subst this
      simp [hpl, h6]
  | succ j ih =>
    intro l pre cur ds m hj hpl h6 h1 hd hc hm
    obtain ⟨m, rfl⟩ : ∃ j, m = j + 1 := ⟨m - 1, by omega⟩
    cases l with
    | nil =>
      have hge : decide ((pre.length : Int) < t6) = false := decide_eq_false (by rw [h6]; simp)
      rw [F14l0, F14l0F, hge]
      simp only [cond_false, R, done13]
      cases t7 with
      | false => rfl
      | true =>
        have : suf = [] := hs rfl
        subst this
        simp [hpl, h6]
    | cons x r =>
      have hplen := congrArg List.length hpl
      simp only [List.length_append, List.length_cons] at hplen hj hm h6
      have hlt : decide ((pre.length : Int) < t6) = true := decide_eq_true (by rw [h6]; omega)
      have ib : inB (pre.length : Int) p.length = true := by rw [hpl]; exact inB_pre pre x (r ++ suf)
      have gx : p.getD (Int.toNat (pre.length : Int)) 0 = x := by rw [hpl]; exact getD_pre pre x 0 (r ++ suf)
      have e0 : ((pre.length : Int) == 0) = false := by rw [beq_eq_false_iff_ne]; omega
      have hw1 : IntKind.wrap .i64 ((pre.length : Int) + 1) = ((pre.length + 1 : Nat) : Int) := by rw [wrap64 (by omega) (by omega)]; simp
      have li := last_ix ds cur (by omega)
      have lin := last_in ds cur
      have lget := last_get ds cur (Ty.dflt .str)
      have cat : ∀ y : List UInt8, y.length ≤ 5 → decide (cur.length + y.length ≤ 9223372036854775807) = true := fun y hy => decide_eq_true (by omega)
      have next1 : ∀ (cur' : List UInt8) (ds' : List (List UInt8)), cur'.length ≤ pre.length + 1 → ds'.length ≤ pre.length + 1 → F14l0 n m p t6 t7 (ds' ++ [cur']) ((pre.length + 1 : Nat) : Int) = some (done13 t6 t7 (R r (pre.length + 1) cur' ds')) := by
        intro cur' ds' hc' hd'
        have := ih r (pre ++ [x]) cur' ds' m (by omega) (by rw [hpl]; simp) (by rw [h6]; simp) (by simp) (by simpa using hd') (by simpa using hc') (by omega)
        rw [List.length_append, List.length_singleton] at this
        exact this
      rw [F14l0, F14l0F, hlt, ib, gx]
      simp only [cond_true, e0, cond_false]
      by_cases h47 : x = 47
      · subst h47
        have hr := room16 ((ds ++ [cur]).length + ([([] : List UInt8)] : List (List UInt8)).length) (by simp; omega)
        rw [show ((((47 : UInt8).toNat : Int)) == 47) = true from rfl, R_slash]
        simp only [cond_true, hr, hw1]
        exact next1 [] (ds ++ [cur]) (by simp) (by simp; omega)
      · have b47 := byte_ne (x := x) (k := 47) (by omega) h47
        rw [show (((x.toNat : Int)) == 47) = false from b47]
        simp only [cond_false]
        by_cases h126 : x = 126
        · subst h126
          rw [show ((((126 : UInt8).toNat : Int)) == 126) = true from rfl, hw1]
          simp only [cond_true]
          cases r with
          | nil =>
            have : (((pre.length + 1 : Nat) : Int) == t6) = true := by rw [h6]; simp
            rw [this, R_tend]
            unfold F14j1
            simp only [cond_true, done13]
            cases t7 with
            | false => rfl
            | true =>
              have : suf = [] := hs rfl
              subst this
              simp only [cond_true, h6, hplen]
              simp
          | cons y r =>
            simp only [List.length_cons] at h6 hj hm hplen
            have hn6 : (((pre.length + 1 : Nat) : Int) == t6) = false := by rw [beq_eq_false_iff_ne, h6]; omega
            have hsp : p = (pre ++ [126]) ++ y :: (r ++ suf) := by rw [hpl]; simp
            have hpl1 : ((pre ++ [126]).length : Nat) = pre.length + 1 := by simp
            have ib1 : inB ((pre.length + 1 : Nat) : Int) p.length = true := by rw [← hpl1, hsp]; exact inB_pre (pre ++ [126]) y (r ++ suf)
            have gy : p.getD (Int.toNat ((pre.length + 1 : Nat) : Int)) 0 = y := by rw [← hpl1, hsp]; exact getD_pre (pre ++ [126]) y 0 (r ++ suf)
            have hw2 : IntKind.wrap .i64 (((pre.length + 1 : Nat) : Int) + 1) = ((pre.length + 2 : Nat) : Int) := by rw [wrap64 (by omega) (by omega)]; omega
            have next2 : ∀ (cur' : List UInt8), cur'.length ≤ pre.length + 2 → F14l0 n m p t6 t7 (ds ++ [cur']) ((pre.length + 2 : Nat) : Int) = some (done13 t6 t7 (R r (pre.length + 2) cur' ds)) := by
              intro cur' hc'
              have := ih r (pre ++ [126, y]) cur' ds m (by omega) (by rw [hpl]; simp) (by rw [h6]; simp) (by simp) (by simp; omega) (by simpa using hc') (by omega)
              rw [List.length_append, show ([126, y] : List UInt8).length = 2 from rfl] at this
              exact this
            rw [hn6]
            unfold F14j1
            rw [show ((((126 : UInt8).toNat : Int)) == 126) = true from rfl, hw1, ib1, gy]
            simp only [cond_true, cond_false]
            by_cases h48 : y = 48
            · subst h48
              rw [show ((((48 : UInt8).toNat : Int)) != 48) = false from rfl, show ((((48 : UInt8).toNat : Int)) == 48) = true from rfl, R_0]
              simp only [cond_false]
              unfold F14j2
              rw [li, lin, lget, cat [126] (by simp), hw1, hw2]
              simp only [cond_true, last_set]
              exact next2 (cur ++ [126]) (by simp; omega)
            · have b48 := byte_ne (x := y) (k := 48) (by omega) h48
              have n48 : (((y.toNat : Int)) != 48) = true := by unfold bne; rw [show (((y.toNat : Int)) == 48) = false from b48]; rfl
              rw [n48, show (((y.toNat : Int)) == 48) = false from b48]
              simp only [cond_true]
              by_cases h49 : y = 49
              · subst h49
                rw [show ((((49 : UInt8).toNat : Int)) != 49) = false from rfl, R_1]
                simp only [cond_false]
                unfold F14j2
                rw [show ((((126 : UInt8).toNat : Int)) == 126) = true from rfl, li, lin, lget, cat [47] (by simp), hw1, hw2]
                simp only [cond_true, cond_false, last_set]
                exact next2 (cur ++ [47]) (by simp; omega)
              · have b49 := byte_ne (x := y) (k := 49) (by omega) h49
                have n49 : (((y.toNat : Int)) != 49) = true := by unfold bne; rw [show (((y.toNat : Int)) == 49) = false from b49]; rfl
                rw [n49, R_bad _ _ _ _ h48 h49]
                rfl
        · have b126 := byte_ne (x := x) (k := 126) (by omega) h126
          rw [show (((x.toNat : Int)) == 126) = false from b126]
          simp only [cond_false]
          unfold F14j1
          rw [show (((x.toNat : Int)) == 126) = false from b126]
          simp only [cond_false]
          unfold F14j2
          rw [show (((x.toNat : Int)) == 126) = false from b126, hw1]
          simp only [cond_false]
          have hcut : cutB (pre.length : Int) ((pre.length + 1 : Nat) : Int) p.length = true := by simp [cutB]; omega
          have hone : (((p).drop (Int.toNat (pre.length : Int))).take (Int.toNat ((pre.length + 1 : Nat) : Int) - Int.toNat (pre.length : Int))) = [x] := by
            rw [hpl]
            rw [show Int.toNat ((pre.length + 1 : Nat) : Int) - Int.toNat (pre.length : Int) = 1 by omega]
            simp
          rw [li, lin, lget, hone, cat [x] (by simp), hcut, R_plain _ _ _ _ h47 h126]
          simp only [cond_true, last_set]
          exact next1 (cur ++ [x]) ds (by simp; omega) (by omega)

theorem F14_eq (n : Nat) (p : List UInt8) (hp : p.length ≤ 70000) (hn : p.length + 10 ≤ n) : F14 n p = some (parseS p) := by
  unfold F14
  rw [F21_eq n _ (bytes_isB p) (by rw [bytes_len]; omega) (by rw [bytes_len]; omega)]
  obtain ⟨u1, u2, u3⟩ := U_le (bytesOf p) 0 [] 0 0 0
  rw [bytes_len, Nat.zero_add] at u2 u3
  unfold parseS
  generalize U (bytesOf p) 0 [] 0 0 0 = u at *
  obtain ⟨rs, k, ok⟩ := u
  simp only [outU] at u2 u3 ⊢
  have hlen : (p.take k).length = k := by rw [List.length_take]; omega
  obtain ⟨n', rfl⟩ : ∃ j, n = j + 1 := ⟨n - 1, by omega⟩
  cases hq : p.take k with
  | nil =>
    rw [hq] at hlen
    simp at hlen
    subst hlen
    rw [F14l0, F14l0F]
    cases ok with
    | false => simp
    | true =>
      have := u3 rfl
      simp [← this]
  | cons x l =>
    have hsp : p = [] ++ x :: (l ++ p.drop k) := by
      have := (List.take_append_drop k p).symm
      rw [hq] at this
      simpa using this
    rw [hq] at hlen
    simp only [List.length_cons] at hlen
    have hlt : decide ((0 : Int) < (k : Int)) = true := decide_eq_true (by omega)
    have i0 : inB 0 p.length = true := by rw [hsp]; exact inB_pre [] x _
    have g0 : p.getD (Int.toNat 0) 0 = x := by rw [hsp]; exact getD_pre [] x 0 _
    rw [F14l0, F14l0F, hlt, i0, g0]
    simp only [cond_true, show ((0 : Int) == 0) = true from rfl]
    by_cases h47 : x = 47
    · subst h47
      have hr := room16 (([] : List (List UInt8)).length + ([([] : List UInt8)] : List (List UInt8)).length) (by simp)
      rw [if_pos rfl, show ((((47 : UInt8).toNat : Int)) != 47) = false from rfl, show ((((47 : UInt8).toNat : Int)) == 47) = true from rfl]
      have := F14_loop (n' + 1) p (p.drop k) (k : Int) ok hp (fun h => by have := u3 h; subst this; simp) l.length l [47] [] [] n' (Nat.le_refl _) (by simpa using hsp) (by simp; omega) (by simp) (by simp) (by simp) (by omega)
      refine Eq.trans ?_ this
      rfl
    · rw [if_neg h47]
      have b47 := byte_ne (x := x) (k := 47) (by omega) h47
      have n47 : (((x.toNat : Int)) != 47) = true := by unfold bne; rw [show (((x.toNat : Int)) == 47) = false from b47]; rfl
      rw [n47]
      rfl

end Go.Proofs.YtaeamjhgfhcjdaaDoor.Ab.Pt

/- Print; few; the law PointerAll. -/
namespace Go.Proofs.YtaeamjhgfhcjdaaDoor.Ab.Pt
open Go Go.RowKit Go.Proofs.YtaeamjhgfhcjdaaDoor.Ab
set_option maxRecDepth 100000
set_option linter.unusedVariables false
set_option linter.unusedSimpArgs false

theorem inB_L {α : Type} (pre : List α) (x : α) (l : List α) : inB (pre.length : Int) (pre ++ x :: l).length = true := inB_pre pre x l

theorem ge_pre {α : Type} (pre : List α) : decide ((pre.length : Int) < (((pre ++ []).length : Nat) : Int)) = false := by simp
theorem lt_pre {α : Type} (pre : List α) (x : α) (l : List α) : decide ((pre.length : Int) < (((pre ++ x :: l).length : Nat) : Int)) = true := by simp; omega
theorem wrap_pre {α : Type} (pre : List α) (x : α) (h : pre.length < 9223372036854775807) : IntKind.wrap .i64 ((pre.length : Int) + 1) = ((pre ++ [x]).length : Int) := by
  rw [wrap64 (by omega) (by omega)]; simp

/-! ### same -/

theorem F17_loop (n : Nat) : ∀ (l pre : List (List UInt8)) (m : Nat), (pre ++ l).length ≤ 1000000000 → l.length + 1 ≤ m → F17l0 n m (pre ++ l) (pre ++ l) (pre.length : Int) = some true
  | [], pre, m, hl, hm => by
    obtain ⟨m, rfl⟩ : ∃ j, m = j + 1 := ⟨m - 1, by simp at hm; omega⟩
    rw [F17l0, F17l0F, ge_pre]; rfl
  | x :: l, pre, m, hl, hm => by
    obtain ⟨m, rfl⟩ : ∃ j, m = j + 1 := ⟨m - 1, by simp at hm; omega⟩
    have ih := F17_loop n l (pre ++ [x]) m (by simpa using hl) (by simp at hm; omega)
    rw [List.append_assoc, List.singleton_append] at ih
    rw [F17l0, F17l0F, lt_pre, inB_L, getD_pre, wrap_pre pre x (by simp at hl; omega)]
    simp only [cond_true, beq_self_eq_true, Bool.not_true, cond_false]
    exact ih

theorem F17_self (n : Nat) (l : List (List UInt8)) (h1 : l.length + 1 ≤ n) (h2 : l.length ≤ 1000000000) : F17 n l l = some true := by
  unfold F17
  have : ((l.length : Int) != (l.length : Int)) = false := by simp
  rw [this, cond_false]
  exact F17_loop n l [] n (by simpa using h2) h1

/-! ### few -/

theorem F11_loop (n : Nat) : ∀ (l pre : List (List UInt8)) (m : Nat), (pre ++ l).length ≤ 9223372036854775807 → l.length + 1 ≤ m →
    F11l0 n m (pre ++ l) (pre.length : Int) = some (l.all (fun x => decide (x.length ≤ 60)) && decide ((pre ++ l).length ≤ 20))
  | [], pre, m, hl, hm => by
    obtain ⟨m, rfl⟩ : ∃ j, m = j + 1 := ⟨m - 1, by simp at hm; omega⟩
    rw [F11l0, F11l0F, ge_pre]
    simp
    omega
  | x :: l, pre, m, hl, hm => by
    obtain ⟨m, rfl⟩ : ∃ j, m = j + 1 := ⟨m - 1, by simp at hm; omega⟩
    have ih := F11_loop n l (pre ++ [x]) m (by simpa using hl) (by simp at hm; omega)
    rw [List.append_assoc, List.singleton_append] at ih
    rw [F11l0, F11l0F, lt_pre, inB_L, getD_pre, wrap_pre pre x (by simp at hl; omega), ih]
    by_cases h : x.length ≤ 60
    · have : decide ((x.length : Int) > 60) = false := decide_eq_false (by omega)
      simp [this, h]
    · have : decide ((x.length : Int) > 60) = true := decide_eq_true (by omega)
      simp [this, h]

def fewS (l : List (List UInt8)) : Bool := l.all (fun x => decide (x.length ≤ 60)) && decide (l.length ≤ 20)

theorem F11_eq (n : Nat) (l : List (List UInt8)) (h1 : l.length + 1 ≤ n) (h2 : l.length ≤ 9223372036854775807) : F11 n l = some (fewS l) := F11_loop n l [] n (by simpa using h2) h1

/-! ### Print -/

theorem F19_inner (n : Nat) (r0 : List (List UInt8) → List UInt8 → Int → Option (List UInt8)) (t0 : List (List UInt8)) (t4 : Int) (t : List UInt8) (h4 : inB t4 t0.length = true) (ht : t0.getD (Int.toNat t4) (Ty.dflt .str) = t) (hl : t.length ≤ 1000000) :
    ∀ (l pre out : List UInt8) (m : Nat), t = pre ++ l → l.length + 1 ≤ m → out.length + 2 * l.length ≤ 1000000000 →
    F19l1 n r0 m t0 out t4 (pre.length : Int) = r0 t0 (out ++ esc l) (IntKind.wrap .i64 (t4 + 1))
  | [], pre, out, m, hp, hm, ho => by
    obtain ⟨m, rfl⟩ : ∃ j, m = j + 1 := ⟨m - 1, by simp at hm; omega⟩
    rw [F19l1, F19l1F, h4, ht, hp, ge_pre]
    simp [esc]
  | x :: l, pre, out, m, hp, hm, ho => by
    obtain ⟨m, rfl⟩ : ∃ j, m = j + 1 := ⟨m - 1, by simp at hm; omega⟩
    have hpl : pre.length ≤ 1000000 := by rw [hp] at hl; simp at hl; omega
    simp only [List.length_cons] at ho hm
    have ih := fun out' (h : out'.length + 2 * l.length ≤ 1000000000) => F19_inner n r0 t0 t4 t h4 ht hl l (pre ++ [x]) out' m (by rw [hp]; simp) (by omega) h
    have e1 : esc (x :: l) = (if x = 126 then [126, 48] else if x = 47 then [126, 49] else [x]) ++ esc l := rfl
    have hlt : decide ((pre.length : Int) < ((t.length : Nat) : Int)) = true := by rw [hp]; exact lt_pre pre x l
    have hin : inB (pre.length : Int) t.length = true := by rw [hp]; exact inB_L pre x l
    have hg : t.getD (Int.toNat (pre.length : Int)) 0 = x := by rw [hp]; exact getD_pre pre x 0 l
    have cat : ∀ y : List UInt8, y.length ≤ 5 → decide (out.length + y.length ≤ 9223372036854775807) = true := fun y hy => decide_eq_true (by omega)
    rw [F19l1, F19l1F, h4, ht, hlt, hin, hg, wrap_pre pre x (by omega), e1]
    simp only [cond_true]
    by_cases h126 : x = 126
    · subst h126
      rw [show ((((126 : UInt8).toNat : Int)) == 126) = true from rfl, cat [126, 48] (by simp)]
      simp only [cond_true]
      rw [ih _ (by simp; omega)]
      simp
    · rw [show (((x.toNat : Int)) == 126) = false from byte_ne (k := 126) (by omega) h126]
      simp only [cond_false]
      by_cases h47 : x = 47
      · subst h47
        rw [show ((((47 : UInt8).toNat : Int)) == 47) = true from rfl, cat [126, 49] (by simp)]
        simp only [cond_true]
        rw [ih _ (by simp; omega)]
        simp
      · rw [show (((x.toNat : Int)) == 47) = false from byte_ne (k := 47) (by omega) h47]
        simp only [cond_false]
        have hcut : cutB (pre.length : Int) ((pre ++ [x]).length : Int) t.length = true := by rw [hp]; simp [cutB]; omega
        have hone : (((t).drop (Int.toNat (pre.length : Int))).take (Int.toNat ((pre ++ [x]).length : Int) - Int.toNat (pre.length : Int))) = [x] := by
          rw [hp, show Int.toNat ((pre ++ [x]).length : Int) - Int.toNat (pre.length : Int) = 1 by simp]
          simp
        rw [hcut, hone, cat [x] (by simp)]
        simp only [cond_true]
        rw [ih _ (by simp; omega), if_neg h47]
        simp [h126]

theorem esc_len (t : List UInt8) : (esc t).length ≤ 2 * t.length := by
  unfold esc
  induction t with
  | nil => simp
  | cons x t ih =>
    rw [List.flatMap_cons, List.length_append]
    have : (if x = 126 then ([126, 48] : List UInt8) else if x = 47 then [126, 49] else [x]).length ≤ 2 := by split; simp; split <;> simp
    simp only [List.length_cons]
    omega

theorem F19_loop (n : Nat) : ∀ (l pre : List (List UInt8)) (out : List UInt8) (m : Nat), (∀ x ∈ l, x.length ≤ 60 ∧ x.length + 1 ≤ n) → (pre ++ l).length ≤ 1000 → l.length + 1 ≤ m → out.length + 121 * l.length ≤ 1000000 →
    F19l0 n m (pre ++ l) out (pre.length : Int) = some (out ++ printB l)
  | [], pre, out, m, _, hl, hm, ho => by
    obtain ⟨m, rfl⟩ : ∃ j, m = j + 1 := ⟨m - 1, by simp at hm; omega⟩
    rw [F19l0, F19l0F, ge_pre]
    simp [printB]
  | x :: l, pre, out, m, hx, hl, hm, ho => by
    obtain ⟨m, rfl⟩ : ∃ j, m = j + 1 := ⟨m - 1, by simp at hm; omega⟩
    have hx0 := hx x (by simp)
    have he := esc_len x
    simp only [List.length_cons] at ho hm
    have hpl : pre.length ≤ 1000 := by simp at hl; omega
    have ih := F19_loop n l (pre ++ [x]) (out ++ (47 :: esc x)) m (fun y hy => hx y (by simp [hy])) (by simpa using hl) (by omega) (by simp; omega)
    rw [List.append_assoc, List.singleton_append] at ih
    have cat : decide (out.length + ([47] : List UInt8).length ≤ 9223372036854775807) = true := decide_eq_true (by simp; omega)
    rw [F19l0, F19l0F, lt_pre, cat]
    simp only [cond_true]
    have hin := F19_inner n (F19l0 n m) (pre ++ x :: l) (pre.length : Int) x (inB_L pre x l) (getD_pre pre x _ l) (by omega) x [] (out ++ [47]) n rfl (by omega) (by simp; omega)
    refine Eq.trans hin ?_
    rw [wrap_pre pre x (by omega), show (out ++ [47] ++ esc x) = out ++ (47 :: esc x) by simp, ih]
    unfold printB
    rw [List.flatMap_cons, tokB_esc]
    simp

theorem F19_eq (n : Nat) (hn : 100 ≤ n) (l : List (List UInt8)) (h : fewS l = true) : F19 n l = some (printB l) := by
  simp only [fewS, Bool.and_eq_true, List.all_eq_true, decide_eq_true_eq] at h
  have := F19_loop n l [] [] n (fun x hx => ⟨h.1 x hx, by have := h.1 x hx; omega⟩) (by simp; omega) (by omega) (by simp; omega)
  unfold F19
  simpa using this

theorem F18_eq (n : Nat) (l : List (List UInt8)) (h : fewS l = true) : F18 n l = some (printB l) := by
  simp only [fewS, Bool.and_eq_true, List.all_eq_true, decide_eq_true_eq] at h
  unfold F18
  have : (Nat.ble l.length 1000000 && l.all (fun x => Nat.ble x.length 1000000)) = true := by
    simp only [Bool.and_eq_true, List.all_eq_true, Nat.ble_eq]
    exact ⟨by omega, fun x hx => by have := h.1 x hx; omega⟩
  rw [this]; rfl

theorem parse_len (p : List UInt8) (hp : p.length ≤ 1000) : (parseS p).1.length ≤ 1001 := by
  have hR : ∀ (j : Nat) (l : List UInt8) (i : Nat) (cur : List UInt8) (ds : List (List UInt8)) (out : List (List UInt8)), l.length ≤ j → R l i cur ds = .ok out → out.length ≤ ds.length + l.length + 1 := by
    intro j
    induction j with
    | zero =>
      intro l i cur ds out hj h
      have : l = [] := List.length_eq_zero_iff.1 (by omega)
      subst this
      simp only [R] at h; cases h; simp
    | succ j ih =>
      intro l i cur ds out hj h
      cases l with
      | nil => simp only [R] at h; cases h; simp
      | cons x l =>
        simp only [List.length_cons] at hj ⊢
        by_cases h47 : x = 47
        · subst h47; rw [R_slash] at h
          have := ih l _ _ _ _ (by omega) h
          simp at this; omega
        · by_cases h126 : x = 126
          · subst h126
            cases l with
            | nil => rw [R_tend] at h; cases h
            | cons y r =>
              simp only [List.length_cons] at hj ⊢
              by_cases h48 : y = 48
              · subst h48; rw [R_0] at h
                have := ih r _ _ _ _ (by omega) h
                omega
              · by_cases h49 : y = 49
                · subst h49; rw [R_1] at h
                  have := ih r _ _ _ _ (by omega) h
                  omega
                · rw [R_bad _ _ _ _ h48 h49] at h; cases h
          · rw [R_plain _ _ _ _ h47 h126] at h
            have := ih l _ _ _ _ (by omega) h
            omega
  unfold parseS
  dsimp only
  generalize U (bytesOf p) 0 [] 0 0 0 = u
  have hlen : (p.take u.2.1).length ≤ 1000 := by rw [List.length_take]; omega
  cases hq : p.take u.2.1 with
  | nil => simp
  | cons x l =>
    rw [hq] at hlen
    simp only [List.length_cons] at hlen
    simp only
    split
    · cases hr : R l 1 [] [] with
      | bad k => simp [done13]
      | tend => simp [done13]
      | ok out =>
        have := hR l.length l _ _ _ _ (Nat.le_refl _) hr
        simp only [done13]
        split
        · simp at this ⊢; omega
        · simp
    · simp

theorem all_pure (n : Nat) (p s : List UInt8) (l : List (List UInt8)) (hn : 2000 + l.length ≤ n) (hn2 : l.length ≤ 9223372036854775807) : F3 n p s l = some true := by
  unfold F3
  by_cases hp : p.length > 200
  · rw [decide_eq_true (by omega), awake12]; rfl
  rw [decide_eq_false (by omega), cond_false]
  by_cases hs : s.length > 200
  · rw [decide_eq_true (by omega), awake12]; rfl
  rw [decide_eq_false (by omega), cond_false, F11_eq n l (by omega) (by omega)]
  cases hf : fewS l with
  | false => simp [awake12]
  | true =>
    rw [F13_eq n p (by omega) (by omega), F14_eq n p (by omega) (by omega), F15_eq n (by omega), F16_eq n (by omega)]
    have hpl := parse_len p (by omega)
    simp only [F17_self n (parseS p).1 (by omega) (by omega), F18_eq n l hf, F19_eq n (by omega) l hf, awake12]
    simp

theorem pointerAll_pure (p s : List UInt8) (l : List (List UInt8)) (h : WF (.slice .str) l) : F3 (2000 + l.length) p s l = some true :=
  all_pure _ p s l (Nat.le_refl _) (by have := h.1; unfold maxLen at this; omega)

end Go.Proofs.YtaeamjhgfhcjdaaDoor.Ab.Pt

/- The laws PointerForth and PointerBack. -/
namespace Go.Proofs.YtaeamjhgfhcjdaaDoor.Ab.Pt
open Go Go.RowKit Go.Proofs.YtaeamjhgfhcjdaaDoor.Ab
set_option maxRecDepth 100000
set_option linter.unusedVariables false
set_option linter.unusedSimpArgs false

theorem printB_cons (t : List UInt8) (ts : List (List UInt8)) : printB (t :: ts) = 47 :: (esc t ++ printB ts) := by
  unfold printB
  rw [List.flatMap_cons, tokB_esc]; rfl
theorem printB_append (a b : List (List UInt8)) : printB (a ++ b) = printB a ++ printB b := by simp [printB]
theorem printB_one (t : List UInt8) : printB [t] = 47 :: esc t := by rw [printB_cons]; simp [printB]
theorem esc_append (a b : List UInt8) : esc (a ++ b) = esc a ++ esc b := by simp [esc]
theorem esc_one {x : UInt8} (h1 : x ≠ 47) (h2 : x ≠ 126) : esc [x] = [x] := by simp [esc, h1, h2]

/-- How many signs. -/
def signs (l : List UInt8) : Nat := l.countP (· == 47)

theorem signs_cons (x : UInt8) (l : List UInt8) : signs (x :: l) = signs l + (if x = 47 then 1 else 0) := by
  unfold signs
  rw [List.countP_cons]
  simp

/-- What is read is written so. -/
theorem R_print : ∀ (j : Nat) (l : List UInt8) (i : Nat) (cur : List UInt8) (ds out : List (List UInt8)), l.length ≤ j → R l i cur ds = .ok out → printB out = printB (ds ++ [cur]) ++ l ∧ out.length = ds.length + 1 + signs l := by
  intro j
  induction j with
  | zero =>
    intro l i cur ds out hj h
    have : l = [] := List.length_eq_zero_iff.1 (by omega)
    subst this
    simp only [R] at h; cases h
    simp [signs]
  | succ j ih =>
    intro l i cur ds out hj h
    cases l with
    | nil => simp only [R] at h; cases h; simp [signs]
    | cons x l =>
      simp only [List.length_cons] at hj
      by_cases h47 : x = 47
      · subst h47; rw [R_slash] at h
        obtain ⟨a, b⟩ := ih l _ _ _ _ (by omega) h
        rw [signs_cons, a, b]
        refine ⟨?_, by simp; omega⟩
        rw [printB_append (ds ++ [cur]), printB_one]
        simp [esc]
      · by_cases h126 : x = 126
        · subst h126
          cases l with
          | nil => rw [R_tend] at h; cases h
          | cons y r =>
            simp only [List.length_cons] at hj
            by_cases h48 : y = 48
            · subst h48; rw [R_0] at h
              obtain ⟨a, b⟩ := ih r _ _ _ _ (by omega) h
              rw [signs_cons, signs_cons, a, b]
              refine ⟨?_, by simp⟩
              rw [printB_append, printB_append, printB_one, printB_one, esc_append]
              simp [esc]
            · by_cases h49 : y = 49
              · subst h49; rw [R_1] at h
                obtain ⟨a, b⟩ := ih r _ _ _ _ (by omega) h
                rw [signs_cons, signs_cons, a, b]
                refine ⟨?_, by simp⟩
                rw [printB_append, printB_append, printB_one, printB_one, esc_append]
                simp [esc]
              · rw [R_bad _ _ _ _ h48 h49] at h; cases h
        · rw [R_plain _ _ _ _ h47 h126] at h
          obtain ⟨a, b⟩ := ih l _ _ _ _ (by omega) h
          rw [signs_cons, a, b, if_neg h47]
          refine ⟨?_, rfl⟩
          rw [printB_append, printB_append, printB_one, printB_one, esc_append, esc_one h47 h126]
          simp

theorem parse_ok {p : List UInt8} (h : (parseS p).2.2 = true) : printB (parseS p).1 = p ∧ (parseS p).1.length = signs p ∧ (parseS p).2.1 = (p.length : Int) := by
  obtain ⟨u1, u2, u3⟩ := U_le (bytesOf p) 0 [] 0 0 0
  rw [bytes_len, Nat.zero_add] at u2 u3
  unfold parseS at h ⊢
  dsimp only at h ⊢
  generalize U (bytesOf p) 0 [] 0 0 0 = u at *
  obtain ⟨rs, k, ok⟩ := u
  simp only at u2 u3 h ⊢
  cases hq : p.take k with
  | nil =>
    rw [hq] at h
    have hk := u3 h
    subst hk
    rw [List.take_length] at hq
    subst hq
    simp [printB, signs]
  | cons x l =>
    rw [hq] at h
    simp only at h ⊢
    by_cases h47 : x = 47
    · subst h47
      rw [if_pos rfl] at h ⊢
      cases hr : R l 1 [] [] with
      | bad k => rw [hr] at h; simp [done13] at h
      | tend => rw [hr] at h; simp [done13] at h
      | ok out =>
        rw [hr] at h
        cases ok with
        | false => simp [done13] at h
        | true =>
          have hk := u3 rfl
          subst hk
          rw [List.take_length] at hq
          obtain ⟨a, b⟩ := R_print l.length l 1 [] [] out (Nat.le_refl _) hr
          simp only [done13, if_true]
          refine ⟨?_, ?_, trivial⟩
          · rw [a, hq, List.nil_append, printB_one]; simp [esc]
          · rw [b, hq, signs_cons]; simp; omega
    · rw [if_neg h47] at h; cases h

theorem parse_bad {p : List UInt8} (h : (parseS p).2.2 = false) : (parseS p).1 = [] := by
  unfold parseS at h ⊢
  dsimp only at h ⊢
  generalize U (bytesOf p) 0 [] 0 0 0 = u at *
  split at h
  · rfl
  · split at h
    · rename_i x l hq h47
      rw [if_pos h47]
      cases hr : R l 1 [] [] with
      | bad k => rfl
      | tend => rfl
      | ok out =>
        rw [hr] at h
        cases hok : u.2.2 with
        | false => simp [done13]
        | true => rw [hok] at h; simp [done13] at h
    · rename_i x l hq h47
      rw [if_neg h47]

theorem esc_ge : ∀ t : List UInt8, t.length ≤ (esc t).length
  | [] => Nat.le_refl _
  | x :: t => by
    have := esc_ge t
    have e : esc (x :: t) = (if x = 126 then [126, 48] else if x = 47 then [126, 49] else [x]) ++ esc t := rfl
    rw [e, List.length_append]
    have : 1 ≤ (if x = 126 then ([126, 48] : List UInt8) else if x = 47 then [126, 49] else [x]).length := by split; simp; split <;> simp
    simp only [List.length_cons]; omega

theorem printB_ge : ∀ (l : List (List UInt8)), l.length ≤ (printB l).length ∧ ∀ x ∈ l, x.length ≤ (printB l).length
  | [] => ⟨Nat.le_refl _, by simp⟩
  | t :: ts => by
    obtain ⟨a, b⟩ := printB_ge ts
    have := esc_ge t
    rw [printB_cons]
    simp only [List.length_cons, List.length_append]
    refine ⟨by omega, fun x hx => ?_⟩
    rcases List.mem_cons.1 hx with rfl | hx
    · omega
    · have := b x hx; omega

theorem F18_print (n : Nat) (l : List (List UInt8)) (h : (printB l).length ≤ 1000000) : F18 n l = some (printB l) := by
  obtain ⟨a, b⟩ := printB_ge l
  unfold F18
  have : (Nat.ble l.length 1000000 && l.all (fun x => Nat.ble x.length 1000000)) = true := by
    simp only [Bool.and_eq_true, List.all_eq_true, Nat.ble_eq]
    exact ⟨by omega, fun x hx => by have := b x hx; omega⟩
  rw [this]; rfl

theorem F5_loop (n : Nat) (t0 : List UInt8) (t3 : List (List UInt8)) (h18 : F18 n t3 = some t0) (hsg : t3.length = signs t0) (hl : t0.length ≤ 1000) :
    ∀ (l pre : List UInt8) (c : Nat) (m : Nat), t0 = pre ++ l → signs t0 = c + signs l → c ≤ pre.length → l.length + 1 ≤ m → F5l0 n m t0 t3 (t0.length : Int) (c : Int) (pre.length : Int) = some true
  | [], pre, c, m, hp, hc, hc2, hm => by
    obtain ⟨m, rfl⟩ : ∃ j, m = j + 1 := ⟨m - 1, by simp at hm; omega⟩
    have hge : decide ((pre.length : Int) < ((t0.length : Nat) : Int)) = false := by rw [hp]; exact ge_pre pre
    have hcc : ((t3.length : Int) == (c : Int)) = true := by
      rw [beq_iff_eq, hsg, hc]; simp [signs]
    rw [F5l0, F5l0F, hge, h18, hcc, awake12]
    simp
  | x :: l, pre, c, m, hp, hc, hc2, hm => by
    obtain ⟨m, rfl⟩ : ∃ j, m = j + 1 := ⟨m - 1, by simp at hm; omega⟩
    have hpl : pre.length ≤ 1000 := by rw [hp] at hl; simp at hl; omega
    have hlt : decide ((pre.length : Int) < ((t0.length : Nat) : Int)) = true := by rw [hp]; exact lt_pre pre x l
    have hin : inB (pre.length : Int) t0.length = true := by rw [hp]; exact inB_L pre x l
    have hg : t0.getD (Int.toNat (pre.length : Int)) 0 = x := by rw [hp]; exact getD_pre pre x 0 l
    rw [F5l0, F5l0F, hlt, hin, hg, wrap_pre pre x (by omega)]
    simp only [cond_true]
    rw [signs_cons] at hc
    by_cases h47 : x = 47
    · subst h47
      rw [if_pos rfl] at hc
      rw [show ((((47 : UInt8).toNat : Int)) == 47) = true from rfl, cond_true, wrap64 (by omega) (by omega)]
      have := F5_loop n t0 t3 h18 hsg hl l (pre ++ [47]) (c + 1) m (by rw [hp]; simp) (by omega) (by simp; omega) (by simp at hm; omega)
      exact this
    · rw [if_neg h47] at hc
      rw [show (((x.toNat : Int)) == 47) = false from byte_ne (k := 47) (by omega) h47, cond_false]
      exact F5_loop n t0 t3 h18 hsg hl l (pre ++ [x]) c m (by rw [hp]; simp) (by omega) (by simp; omega) (by simp at hm; omega)

theorem forth_pure (n : Nat) (hn : 2000 ≤ n) (p : List UInt8) : F5 n p = some true := by
  unfold F5
  by_cases hp : p.length > 200
  · rw [decide_eq_true (by omega), awake12]; rfl
  rw [decide_eq_false (by omega), cond_false, F13_eq n p (by omega) (by omega)]
  cases hok : (parseS p).2.2 with
  | false =>
    have hb := parse_bad hok
    generalize parseS p = q at *
    simp [hok, hb, awake12]
  | true =>
    obtain ⟨a, b, c⟩ := parse_ok hok
    have h18 := F18_print n (parseS p).1 (by rw [a]; omega)
    rw [a] at h18
    simp only [hok, Bool.not_true, cond_false, c]
    exact F5_loop n p (parseS p).1 h18 b (by omega) p [] 0 n rfl (by simp) (by simp) (by omega)

theorem pointerForth_pure (p : List UInt8) : F5 2000 p = some true := forth_pure _ (Nat.le_refl _) p

/-! ### PointerBack -/

def valid (s : List UInt8) : Prop := (U (bytesOf s) 0 [] 0 0 0).2.2 = true

theorem bytesOf_append (a b : List UInt8) : bytesOf (a ++ b) = bytesOf a ++ bytesOf b := by simp [bytesOf]
theorem bytesOf_cons (a : UInt8) (b : List UInt8) : bytesOf (a :: b) = (a.toNat : Int) :: bytesOf b := rfl

/-- Whether it is right hangs on the state alone. -/
theorem U_ok_any : ∀ (l : List Int) (k : Nat) (f c : Int) (pos : Nat) (acc : List Int) (c' : Int) (pos' : Nat) (acc' : List Int), (U l pos acc k f c).2.2 = (U l pos' acc' k f c').2.2
  | [], k, f, c, pos, acc, c', pos', acc' => by unfold U; split <;> rfl
  | x :: l, k, f, c, pos, acc, c', pos', acc' => by
    unfold U
    split
    · split
      · exact U_ok_any l _ _ _ _ _ _ _ _
      · split
        · rfl
        · exact U_ok_any l _ _ _ _ _ _ _ _
    · split
      · split
        · exact U_ok_any l _ _ _ _ _ _ _ _
        · exact U_ok_any l _ _ _ _ _ _ _ _
      · rfl

def okU (l : List Int) (k : Nat) (f : Int) : Bool := (U l 0 [] k f 0).2.2

theorem okU_eq (l : List Int) (k : Nat) (f c : Int) (pos : Nat) (acc : List Int) : (U l pos acc k f c).2.2 = okU l k f := U_ok_any _ _ _ _ _ _ _ _ _

theorem okU_nil (k : Nat) (f : Int) : okU [] k f = decide (k = 0) := by
  unfold okU U
  by_cases h : k = 0 <;> simp [h]

theorem okU_cons (x : Int) (l : List Int) (k : Nat) (f : Int) : okU (x :: l) k f =
    if k = 0 then (if lng x = 1 then okU l 0 f else if lng x = 0 then false else okU l 1 x)
    else if cont k f x then (if (k : Int) + 1 < lng f then okU l (k + 1) f else okU l 0 f) else false := by
  conv => lhs; unfold okU U
  (repeat' split) <;> simp_all [okU_eq]

theorem okU_f0 : ∀ (l : List Int) (f f' : Int), okU l 0 f = okU l 0 f' := by
  intro l f f'
  unfold okU
  rw [U_any l 0 [] f 0 f' 0]

theorem okU_append : ∀ (a b : List Int) (k : Nat) (f : Int), okU a k f = true → okU (a ++ b) k f = okU b 0 0
  | [], b, k, f, h => by
    rw [okU_nil] at h
    have : k = 0 := by simpa using h
    subst this
    exact okU_f0 _ _ _
  | x :: a, b, k, f, h => by
    rw [List.cons_append, okU_cons]
    rw [okU_cons] at h
    split
    · rename_i hk
      rw [if_pos hk] at h
      split
      · rename_i h1
        rw [if_pos h1] at h
        exact okU_append a b _ _ h
      · rename_i h1
        rw [if_neg h1] at h
        split
        · rename_i h0; rw [if_pos h0] at h; cases h
        · rename_i h0; rw [if_neg h0] at h
          exact okU_append a b _ _ h
    · rename_i hk
      rw [if_neg hk] at h
      split
      · rename_i hc
        rw [if_pos hc] at h
        split
        · rename_i h1
          rw [if_pos h1] at h
          exact okU_append a b _ _ h
        · rename_i h1
          rw [if_neg h1] at h
          exact okU_append a b _ _ h
      · rename_i hc; rw [if_neg hc] at h; cases h

theorem okU_low {x : Int} (l : List Int) (f : Int) (h0 : x < 128) : okU (x :: l) 0 f = okU l 0 0 := by
  rw [okU_cons, if_pos rfl, if_pos (by unfold lng; rw [if_pos h0]), okU_f0]

theorem okU_esc : ∀ (t : List UInt8) (k : Nat) (f : Int), okU (bytesOf t) k f = true → okU (bytesOf (esc t)) k f = true
  | [], k, f, h => h
  | x :: t, k, f, h => by
    have e : esc (x :: t) = (if x = 126 then [126, 48] else if x = 47 then [126, 49] else [x]) ++ esc t := rfl
    rw [bytesOf_cons, okU_cons] at h
    by_cases hk : k = 0
    · subst hk
      rw [if_pos rfl] at h
      by_cases h126 : x = 126
      · subst h126
        rw [e, if_pos rfl, bytesOf_append]
        rw [if_pos (by rfl)] at h
        have ih := okU_esc t 0 f h
        show okU (126 :: 48 :: bytesOf (esc t)) 0 f = true
        rw [okU_low _ _ (by decide), okU_low _ _ (by decide), okU_f0 _ 0 f]; exact ih
      · by_cases h47 : x = 47
        · subst h47
          rw [e, if_neg (by decide), if_pos rfl, bytesOf_append]
          rw [if_pos (by rfl)] at h
          have ih := okU_esc t 0 f h
          show okU (126 :: 49 :: bytesOf (esc t)) 0 f = true
          rw [okU_low _ _ (by decide), okU_low _ _ (by decide), okU_f0 _ 0 f]; exact ih
        · rw [e, if_neg h126, if_neg h47, List.singleton_append, bytesOf_cons, okU_cons, if_pos rfl]
          split at h
          · rename_i h1; rw [if_pos h1]; exact okU_esc t _ _ h
          · rename_i h1; rw [if_neg h1]
            split at h
            · cases h
            · rename_i h0; rw [if_neg h0]; exact okU_esc t _ _ h
    · rw [if_neg hk] at h
      split at h
      · rename_i hc
        have hx : 128 ≤ (x.toNat : Int) := by
          simp only [cont, Bool.and_eq_true, decide_eq_true_eq] at hc
          exact hc.2.1
        have h126 : x ≠ 126 := fun e => by subst e; revert hx; decide
        have h47 : x ≠ 47 := fun e => by subst e; revert hx; decide
        rw [e, if_neg h126, if_neg h47, List.singleton_append, bytesOf_cons, okU_cons, if_neg hk, if_pos hc]
        split at h
        · rename_i h1; rw [if_pos h1]; exact okU_esc t _ _ h
        · rename_i h1; rw [if_neg h1]; exact okU_esc t _ _ h
      · cases h

theorem okU_print : ∀ (l : List (List UInt8)), (∀ x ∈ l, okU (bytesOf x) 0 0 = true) → okU (bytesOf (printB l)) 0 0 = true
  | [], _ => rfl
  | t :: ts, h => by
    rw [printB_cons, bytesOf_cons, okU_low _ _ (by decide), bytesOf_append, okU_append _ _ _ _ (okU_esc t 0 0 (h t (by simp)))]
    exact okU_print ts fun x hx => h x (by simp [hx])

theorem R_esc : ∀ (t r : List UInt8) (i : Nat) (cur : List UInt8) (ds : List (List UInt8)), ∃ i', R (esc t ++ r) i cur ds = R r i' (cur ++ t) ds
  | [], r, i, cur, ds => ⟨i, by simp [esc]⟩
  | x :: t, r, i, cur, ds => by
    have e : esc (x :: t) = (if x = 126 then [126, 48] else if x = 47 then [126, 49] else [x]) ++ esc t := rfl
    rw [e, List.append_assoc]
    by_cases h126 : x = 126
    · subst h126
      obtain ⟨i', h⟩ := R_esc t r (i + 2) (cur ++ [126]) ds
      refine ⟨i', ?_⟩
      rw [if_pos rfl]
      show R (126 :: 48 :: (esc t ++ r)) i cur ds = _
      rw [R_0, h, List.append_assoc]; rfl
    · by_cases h47 : x = 47
      · subst h47
        obtain ⟨i', h⟩ := R_esc t r (i + 2) (cur ++ [47]) ds
        refine ⟨i', ?_⟩
        rw [if_neg (by decide), if_pos rfl]
        show R (126 :: 49 :: (esc t ++ r)) i cur ds = _
        rw [R_1, h, List.append_assoc]; rfl
      · obtain ⟨i', h⟩ := R_esc t r (i + 1) (cur ++ [x]) ds
        refine ⟨i', ?_⟩
        rw [if_neg h126, if_neg h47, List.singleton_append, R_plain _ _ _ _ h47 h126, h, List.append_assoc]; rfl

theorem R_back : ∀ (ts : List (List UInt8)) (i : Nat) (cur : List UInt8) (ds : List (List UInt8)), R (printB ts) i cur ds = .ok (ds ++ [cur] ++ ts)
  | [], i, cur, ds => by simp [printB, R]
  | t :: ts, i, cur, ds => by
    rw [printB_cons, R_slash]
    obtain ⟨i', h⟩ := R_esc t (printB ts) (i + 1) [] (ds ++ [cur])
    rw [h, R_back ts i' ([] ++ t) (ds ++ [cur])]
    simp

theorem parse_print (l : List (List UInt8)) (h : ∀ x ∈ l, okU (bytesOf x) 0 0 = true) : parseS (printB l) = (l, ((printB l).length : Int), true) := by
  have hok := okU_print l h
  obtain ⟨u1, u2, u3⟩ := U_le (bytesOf (printB l)) 0 [] 0 0 0
  have hk := u3 hok
  rw [bytes_len, Nat.zero_add] at hk
  unfold parseS
  dsimp only
  rw [hk, List.take_length, show (U (bytesOf (printB l)) 0 [] 0 0 0).2.2 = true from hok]
  cases l with
  | nil => simp [printB]
  | cons t ts =>
    rw [printB_cons]
    simp only [if_true]
    obtain ⟨i', h⟩ := R_esc t (printB ts) 1 [] []
    rw [h, R_back]
    simp [done13]

theorem F4_loop (n : Nat) (t0 : List (List UInt8)) (hf : fewS t0 = true) (hn : 10000 ≤ n) :
    ∀ (l pre : List (List UInt8)) (m : Nat), t0 = pre ++ l → (∀ x ∈ pre, okU (bytesOf x) 0 0 = true) → l.length + 1 ≤ m → F4l0 n m t0 (pre.length : Int) = some true := by
  have hf' := hf
  simp only [fewS, Bool.and_eq_true, List.all_eq_true, decide_eq_true_eq] at hf'
  intro l
  induction l with
  | nil =>
    intro pre m hp hv hm
    obtain ⟨m, rfl⟩ : ∃ j, m = j + 1 := ⟨m - 1, by simp at hm; omega⟩
    rw [List.append_nil] at hp
    subst hp
    have hge : decide ((t0.length : Int) < ((t0.length : Nat) : Int)) = false := by simp
    have hpp := parse_print t0 hv
    have hlen : (printB t0).length ≤ 3000 := by
      have : ∀ (l : List (List UInt8)), (∀ x ∈ l, x.length ≤ 60) → (printB l).length ≤ 121 * l.length := by
        intro l
        induction l with
        | nil => intro _; simp [printB]
        | cons t ts ih =>
          intro h
          have h1 := ih fun x hx => h x (by simp [hx])
          have h2 := h t (by simp)
          have h3 := esc_len t
          rw [printB_cons]
          simp only [List.length_cons, List.length_append]; omega
      have := this t0 hf'.1
      omega
    rw [F4l0, F4l0F, hge, F18_eq n t0 hf, awake12]
    dsimp only
    rw [F13_eq n _ (by omega) (by omega), hpp]
    simp only [cond_false, cond_true, beq_self_eq_true, F17_self n t0 (by omega) (by omega)]
  | cons x l ih =>
    intro pre m hp hv hm
    obtain ⟨m, rfl⟩ : ∃ j, m = j + 1 := ⟨m - 1, by simp at hm; omega⟩
    have hx : x.length ≤ 60 := hf'.1 x (by rw [hp]; simp)
    have hpl : pre.length ≤ 20 := by have := hf'.2; rw [hp] at this; simp at this; omega
    have hlt : decide ((pre.length : Int) < ((t0.length : Nat) : Int)) = true := by rw [hp]; exact lt_pre pre x l
    have hin : inB (pre.length : Int) t0.length = true := by rw [hp]; exact inB_L pre x l
    have hg : t0.getD (Int.toNat (pre.length : Int)) (Ty.dflt .str) = x := by rw [hp]; exact getD_pre pre x _ l
    have h20 : F20 n x = some (okU (bytesOf x) 0 0) := by
      unfold F20
      rw [F21_eq n _ (bytes_isB x) (by rw [bytes_len]; omega) (by rw [bytes_len]; omega)]
      rfl
    rw [F4l0, F4l0F, hlt, hin, hg, h20, wrap_pre pre x (by omega)]
    cases hv' : okU (bytesOf x) 0 0 with
    | false => simp [awake12]
    | true =>
      simp only [cond_true, Bool.not_true, cond_false]
      exact ih (pre ++ [x]) m (by rw [hp]; simp) (fun y hy => by
        rcases List.mem_append.1 hy with hy | hy
        · exact hv y hy
        · simp at hy; subst hy; exact hv') (by simp at hm; omega)

theorem back_pure (n : Nat) (l : List (List UInt8)) (hn : 10000 + l.length ≤ n) (h2 : l.length ≤ 9223372036854775807) : F4 n l = some true := by
  unfold F4
  rw [F11_eq n l (by omega) h2]
  cases hf : fewS l with
  | false => simp [awake12]
  | true =>
    simp only [Bool.not_true, cond_false]
    exact F4_loop n l hf (by omega) l [] n rfl (by simp) (by omega)

theorem pointerBack_pure (l : List (List UInt8)) (h : WF (.slice .str) l) : F4 (10000 + l.length) l = some true :=
  back_pure _ l (Nat.le_refl _) (by have := h.1; unfold maxLen at this; omega)

end Go.Proofs.YtaeamjhgfhcjdaaDoor.Ab.Pt
