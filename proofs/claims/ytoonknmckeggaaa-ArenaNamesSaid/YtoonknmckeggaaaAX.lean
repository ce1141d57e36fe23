/- The law ArenaNames: its answer. -/
import Derived.Test.YtoonknmckeggaaaAV
namespace Go.Proofs.Ytoonknmckeggaaa.Ab.Ar
open Go Go.RowKit
set_option maxRecDepth 100000
set_option linter.unusedVariables false
set_option linter.unusedSimpArgs false

/-- A name that is kept, under a root of this kind. -/
def nm (rk : Int) (s : List UInt8) : List UInt8 := if rk = 6 then s else []

/-- A root and so many kids, each with its name. -/
def dsN (rk : Int) (l : List (List UInt8)) : List Dt := (rk, false, 0, [], []) :: (List.range l.length).map fun (i : Nat) => (3, false, (i : Int), [], nm rk (l.getD i []))
def psN (m : Nat) : List Int := -1 :: List.replicate m 0

theorem psN_len (m : Nat) : (psN m).length = m + 1 := by simp [psN]

theorem K_psN (m : Nat) : K (psN m) 0 0 = List.range' 1 m := by
  have key : ∀ (m a : Nat), KA 0 (List.replicate m 0) a = List.range' a m := by
    intro m
    induction m with
    | zero => intro a; rfl
    | succ m ih => intro a; simp [List.replicate_succ, KA, ih, List.range'_succ]
  unfold K psN
  simp only [List.drop_zero, KA]
  rw [if_neg (by omega), key]

theorem dtOf_root (rk : Int) (l : List (List UInt8)) : dtOf (dsN rk l) 0 = (rk, false, 0, [], []) := rfl
theorem dtOf_kid (rk : Int) (l : List (List UInt8)) {i : Nat} (h : i < l.length) : dtOf (dsN rk l) (i + 1) = (3, false, (i : Int), [], nm rk (l.getD i [])) := by
  simp [dtOf, dsN, List.getD, h]

section
variable {n : Nat} (hn : 1000 ≤ n) (haw : F9 n = some true)

/-- The first at which it is. -/
def leastN (t0 : List (List UInt8)) (j : Nat) : Nat → Nat → Nat
  | 0, best => best
  | i + 1, best => leastN t0 j i (if t0.getD i [] = t0.getD j [] then i else best)

theorem leastN_spec (t0 : List (List UInt8)) (j : Nat) : ∀ (i best : Nat), (t0.getD best [] = t0.getD j []) → i ≤ best → best ≤ j → (∀ k, i ≤ k → k < best → t0.getD k [] ≠ t0.getD j []) →
    t0.getD (leastN t0 j i best) [] = t0.getD j [] ∧ leastN t0 j i best ≤ j ∧ ∀ k, k < leastN t0 j i best → t0.getD k [] ≠ t0.getD j []
  | 0, best, h1, h2, h3, h4 => ⟨h1, h3, fun k hk => h4 k (by omega) hk⟩
  | i + 1, best, h1, h2, h3, h4 => by
    simp only [leastN]
    by_cases e : t0.getD i [] = t0.getD j []
    · rw [if_pos e]
      exact leastN_spec t0 j i i e (Nat.le_refl _) (by omega) (fun k h5 h6 => by omega)
    · rw [if_neg e]
      refine leastN_spec t0 j i best h1 (by omega) h3 (fun k h5 h6 => ?_)
      by_cases hk : k = i
      · subst hk; exact e
      · exact h4 k (by omega) h6

theorem find_range (p : Int → Bool) (r : Nat) : ∀ (c a : Nat), a ≤ r → r < a + c → p (r : Int) = true → (∀ k : Nat, a ≤ k → k < r → p (k : Int) = false) → (ints (List.range' a c)).find? p = some (r : Int)
  | 0, a, h1, h2, _, _ => by omega
  | c + 1, a, h1, h2, h3, h4 => by
    simp only [ints, List.range'_succ, List.map_cons, List.find?_cons]
    by_cases e : a = r
    · subst e; rw [h3]
    · rw [h4 a (Nat.le_refl _) (by omega)]
      exact find_range p r c (a + 1) (by omega) (by omega) h3 (fun k h5 h6 => h4 k (by omega) h6)

theorem ok_N {rk : Int} (hrk : rk = 5 ∨ rk = 6) (l : List (List UInt8)) (hl : l.length ≤ 100) : Ok (dsN rk l) (psN l.length) := by
  refine ⟨by simp [dsN, psN], by simp [psN]; omega, fun i q h => ?_, fun i d h => ?_⟩
  · cases i with
    | zero => simp [psN] at h; exact .inl ⟨rfl, h.symm⟩
    | succ i =>
      simp [psN, List.getElem?_replicate] at h
      exact .inr (by omega)
  · cases i with
    | zero => simp [dsN] at h; subst h; simp; omega
    | succ i =>
      simp only [dsN, List.getElem?_cons_succ, List.getElem?_map] at h
      cases hr : (List.range l.length)[i]? with
      | none => rw [hr] at h; cases h
      | some k => rw [hr] at h; simp at h; subst h; simp

theorem dsN_snoc (rk : Int) (l : List (List UInt8)) (s : List UInt8) : dsN rk (l ++ [s]) = dsN rk l ++ [(3, false, (l.length : Int), [], nm rk s)] := by
  simp only [dsN, List.length_append, List.length_singleton, List.range_succ, List.map_append, List.cons_append, List.map_cons, List.map_nil]
  congr 2
  · refine List.map_congr_left fun j hj => ?_
    have := List.mem_range.1 hj
    rw [List.getD_eq_getElem?_getD, List.getElem?_append_left this, ← List.getD_eq_getElem?_getD]
  · simp [List.getD]
theorem psN_snoc (m : Nat) : psN (m + 1) = psN m ++ [0] := by
  simp [psN, List.replicate_succ']

include hn in
theorem find_N {rk : Int} (hrk : rk = 5 ∨ rk = 6) (t0 : List (List UInt8)) (ht : t0.length ≤ 100) {j : Nat} (hj : j < t0.length) :
    F15 n (A1 (dsN rk t0) (psN t0.length)) 0 (t0.getD j []) = some (if rk = 6 then ((leastN t0 j j j : Nat) : Int) + 1 else -1) := by
  have hok := ok_N hrk t0 ht
  have h0 : 0 < (psN t0.length).length := by simp [psN]
  have := (find_in n hok hn h0 (t0.getD j [])).1
  rw [dtOf_root] at this
  refine this.trans ?_
  by_cases h6 : rk = 6
  · rw [if_pos h6, if_pos h6]
    obtain ⟨h1, h2, h3⟩ := leastN_spec t0 j j j rfl (Nat.le_refl _) (Nat.le_refl _) (fun k h5 h6 => by omega)
    have hh : ∀ k, k < t0.length → hit (build (dsN rk t0) (psN t0.length)) (t0.getD j []) ((k + 1 : Nat) : Int) = (t0.getD k [] == t0.getD j []) := by
      intro k hk
      unfold hit
      rw [Int.toNat_natCast, build_getD (by simp [psN]; omega)]
      show ((dtOf (dsN rk t0) (k + 1)).2.2.2.2 == _) = _
      rw [dtOf_kid rk t0 hk]
      simp [nm, h6]
    unfold findN
    have hK : K (psN t0.length) (((0 : Nat)) : Int) 0 = List.range' 1 t0.length := K_psN _
    rw [hK, find_range _ (leastN t0 j j j + 1) t0.length 1 (by omega) (by omega) (by rw [hh _ (by omega)]; simpa using h1) (fun k h5 h6 => by
      obtain ⟨k, rfl⟩ : ∃ q, k = q + 1 := ⟨k - 1, by omega⟩
      rw [hh k (by omega)]
      simpa using h3 k (by omega))]
    rfl
  · rw [if_neg h6, if_neg h6]

include hn in
theorem back_loop {rk : Int} (hrk : rk = 5 ∨ rk = 6) (t0 : List (List UInt8)) (t1 : Bool) (h1 : rk = if t1 then 6 else 5) (ht : t0.length ≤ 100) {j : Nat} (hj : j < t0.length)
    (r2 : List (List UInt8) → Bool → Int → List NodeI → Option Bool) (hr : r2 t0 t1 (IntKind.wrap .i64 ((j : Int) + 1)) (build (dsN rk t0) (psN t0.length)) = some true) :
    ∀ (i best : Nat), i ≤ j → best ≤ j → leastN t0 j i best = leastN t0 j j j → ∀ (m : Nat) (p : Int), p = (i : Int) - 1 → i + 1 ≤ m → F5l3 n r2 m t0 t1 (j : Int) (best : Int) p (build (dsN rk t0) (psN t0.length)) = some true := by
  intro i
  have hok := ok_N hrk t0 ht
  have hlen := psN_len t0.length
  induction i with
  | zero =>
    intro best hi hb hl m p hp hm
    obtain ⟨m, rfl⟩ : ∃ q, m = q + 1 := ⟨m - 1, by omega⟩
    subst hp
    show F5l3F n _ _ _ _ _ _ _ _ = _
    unfold F5l3F
    have e0 : decide (((0 : Nat) : Int) - 1 ≥ 0) = false := rfl
    have hjlt : j + 1 < (psN t0.length).length := by omega
    have e1 : F19 n (some (build (dsN rk t0) (psN t0.length), ())) ((j : Int) + 1) = some ((node (dsN rk t0) (psN t0.length) (j + 1)).1, true) := (node_in n hjlt).1
    have hbest : best = leastN t0 j j j := hl
    have e2 : F15 n (some (build (dsN rk t0) (psN t0.length), ())) 0 (t0.getD (Int.toNat (j : Int)) (Ty.dflt .str)) = some (if rk = 6 then ((leastN t0 j j j : Nat) : Int) + 1 else -1) := by
      rw [Int.toNat_natCast]; exact find_N hn hrk t0 ht hj
    have e3 : (node (dsN rk t0) (psN t0.length) (j + 1)).1.2.2.2.2.1 = nm rk (t0.getD j []) := by
      show (dtOf (dsN rk t0) (j + 1)).2.2.2.2 = _
      rw [dtOf_kid rk t0 hj]
    rw [e0]
    simp only [cond_false]
    rw [wrap64 (x := (j : Int) + 1) (by omega) (by omega), e1]
    have hw : IntKind.wrap .i64 ((best : Int) + 1) = (best : Int) + 1 := wrap64 (by omega) (by omega)
    cases t1 with
    | true =>
      have h6 : rk = 6 := by simpa using h1
      simp only [cond_true, hw]
      unfold F5j4
      rw [e2, if_pos h6, ← hbest]
      have e5 : (t0.getD (Int.toNat (j : Int)) (Ty.dflt .str)) = t0.getD j [] := by rw [Int.toNat_natCast]; rfl
      simp only [Bool.not_true, cond_false, cond_true, bne_self_eq_false, inB_nat hj, e3, e5, nm, if_pos h6, beq_self_eq_true]
      exact hr
    | false =>
      have h5 : rk = 5 := by simpa using h1
      simp only [cond_false]
      unfold F5j4
      rw [e2, if_neg (by omega)]
      simp only [Bool.not_true, Bool.not_false, cond_false, cond_true, bne_self_eq_false, inB_nat hj, e3, nm, if_neg (show ¬ rk = 6 by omega), beq_self_eq_true]
      exact hr
  | succ i ih =>
    intro best hi hb hl m p hp hm
    obtain ⟨m, rfl⟩ : ∃ q, m = q + 1 := ⟨m - 1, by omega⟩
    have hp' : p = (i : Int) := by omega
    subst hp'
    show F5l3F n _ _ _ _ _ _ _ _ = _
    unfold F5l3F
    rw [decide_eq_true (by omega), inB_nat (show i < t0.length by omega), inB_nat hj, Int.toNat_natCast, Int.toNat_natCast, wrap64 (x := (i : Int) - 1) (by omega) (by omega)]
    simp only [cond_true]
    have hd : ∀ k : Nat, t0.getD k (Ty.dflt .str) = t0.getD k [] := fun _ => rfl
    rw [hd, hd]
    by_cases e : t0.getD i [] = t0.getD j []
    · have : (t0.getD i [] == t0.getD j []) = true := by simpa using e
      rw [this]
      simp only [leastN, if_pos e] at hl
      exact ih i (by omega) (by omega) hl m _ rfl (by omega)
    · have : (t0.getD i [] == t0.getD j []) = false := by simpa using e
      rw [this]
      simp only [leastN, if_neg e] at hl
      exact ih best (by omega) hb hl m _ rfl (by omega)

include hn haw in
theorem look_loop {rk : Int} (hrk : rk = 5 ∨ rk = 6) (t0 : List (List UInt8)) (t1 : Bool) (h1 : rk = if t1 then 6 else 5) (ht : t0.length ≤ 100) :
    ∀ (d j : Nat), t0.length - j = d → j ≤ t0.length → ∀ m, d + 1 ≤ m → F5l2 n m t0 t1 (j : Int) (build (dsN rk t0) (psN t0.length)) = some true := by
  intro d
  have hok := ok_N hrk t0 ht
  have hlen := psN_len t0.length
  induction d with
  | zero =>
    intro j hd hj m hm
    obtain ⟨m, rfl⟩ : ∃ q, m = q + 1 := ⟨m - 1, by omega⟩
    show F5l2F n _ _ _ _ _ = _
    unfold F5l2F
    have e1 : F19 n (some (build (dsN rk t0) (psN t0.length), ())) 0 = some ((node (dsN rk t0) (psN t0.length) 0).1, true) := (node_in n (show 0 < (psN t0.length).length by omega)).1
    have e3 : (node (dsN rk t0) (psN t0.length) 0).1.2.2.2.2.1 = [] := rfl
    rw [decide_eq_false (by omega)]
    simp only [cond_false, cond_true, e1, e3, beq_self_eq_true, haw]
  | succ d ih =>
    intro j hd hj m hm
    obtain ⟨m, rfl⟩ : ∃ q, m = q + 1 := ⟨m - 1, by omega⟩
    show F5l2F n _ _ _ _ _ = _
    unfold F5l2F
    rw [decide_eq_true (by omega), wrap64 (x := (j : Int) - 1) (by omega) (by omega)]
    simp only [cond_true]
    exact back_loop hn hrk t0 t1 h1 ht (by omega) (F5l2 n m) (by rw [wrap64 (by omega) (by omega)]; exact ih (j + 1) (by omega) (by omega) m (by omega)) j j (Nat.le_refl _) (Nat.le_refl _) rfl n _ rfl (by omega)

include hn haw in
theorem put_loop {rk : Int} (hrk : rk = 5 ∨ rk = 6) (t0 : List (List UInt8)) (t1 : Bool) (h1 : rk = if t1 then 6 else 5) (ht : t0.length ≤ 100) :
    ∀ (d j : Nat), t0.length - j = d → j ≤ t0.length → ∀ m, d + 1 ≤ m → F5l1 n m t0 t1 (j : Int) (build (dsN rk (t0.take j)) (psN j)) = some true := by
  intro d
  induction d with
  | zero =>
    intro j hd hj m hm
    obtain ⟨m, rfl⟩ : ∃ q, m = q + 1 := ⟨m - 1, by omega⟩
    show F5l1F n _ _ _ _ _ = _
    unfold F5l1F
    rw [decide_eq_false (by omega)]
    simp only [cond_false]
    have : j = t0.length := by omega
    subst this
    rw [List.take_length]
    exact look_loop hn haw hrk t0 t1 h1 ht t0.length 0 rfl (by omega) n (by omega)
  | succ d ih =>
    intro j hd hj m hm
    obtain ⟨m, rfl⟩ : ∃ q, m = q + 1 := ⟨m - 1, by omega⟩
    have hlt : j < t0.length := by omega
    have hl : (t0.take j).length = j := by simp; omega
    have hok := ok_N hrk (t0.take j) (by omega)
    rw [hl] at hok
    have hps := psN_len j
    have hg : Good (dsN rk (t0.take j)) (psN j) 0 (3, false, (j : Int), [], t0.getD j [], 0, 0, ()) := ⟨by simp, .inr ⟨by omega, by omega, by show isOpen (dtOf (dsN rk (t0.take j)) 0).1; rw [dtOf_root]; exact hrk⟩⟩
    have hadd := (F11_good n hok (by omega) hg).1
    have hk : kindP (dsN rk (t0.take j)) 0 = rk := rfl
    have hkept : kept (3, false, (j : Int), [], t0.getD j [], 0, 0, ()) rk = (3, false, ((t0.take j).length : Int), [], nm rk (t0.getD j [])) := by rw [hl]; rfl
    have htk : t0.take (j + 1) = t0.take j ++ [t0.getD j []] := by
      rw [List.take_add_one, List.getD_eq_getElem?_getD, List.getElem?_eq_getElem hlt]
      rfl
    rw [hk, hkept, ← dsN_snoc, ← htk, ← psN_snoc] at hadd
    show F5l1F n _ _ _ _ _ = _
    unfold F5l1F
    have e5 : (t0.getD (Int.toNat (j : Int)) (Ty.dflt .str)) = t0.getD j [] := by rw [Int.toNat_natCast]; rfl
    rw [decide_eq_true (by omega), inB_nat hlt, e5]
    simp only [cond_true, hadd]
    have e6 : (((psN j).length : Int) != IntKind.wrap .i64 ((j : Int) + 1)) = false := by rw [wrap64 (by omega) (by omega), hps]; simp
    simp only [e6, cond_false]
    rw [wrap64 (by omega) (by omega)]
    exact ih (j + 1) (by omega) (by omega) m (by omega)

include hn haw in
theorem arenaNames_pureN (t0 : List (List UInt8)) (t1 : Bool) : F5 n t0 t1 = some true := by
  obtain ⟨b8, h8, k8⟩ := few8 (n := n) t0 t0.length 0 rfl n (by omega) (by omega) (by omega)
  have h8' : F8 n t0 = some b8 := h8
  have key : ∀ rk : Int, (rk = if t1 then 6 else 5) → t0.length ≤ 30 → F5j0 n t0 t1 rk ([] : List NodeI) = some true := by
    intro rk hr ht
    have hrk : rk = 5 ∨ rk = 6 := by cases t1 <;> simp at hr <;> omega
    have hg : Good [] [] (-1) (rk, false, 0, [], [114, 111, 111, 116], 0, 0, ()) := ⟨by simp; omega, .inl ⟨rfl, rfl⟩⟩
    have hadd := (F11_good n ok_nil (by simp) hg).1
    have hkept : kept (rk, false, 0, [], [114, 111, 111, 116], 0, 0, ()) (kindP [] (-1)) = (rk, false, 0, [], []) := by
      unfold kept
      rcases hrk with rfl | rfl <;> rfl
    rw [hkept] at hadd
    have e0 : build [] [] = [] := rfl
    rw [e0] at hadd
    unfold F5j0
    simp only [hadd]
    exact put_loop hn haw hrk t0 t1 hr (by omega) t0.length 0 rfl (by omega) n (by omega)
  unfold F5 F6
  simp only [h8', haw]
  cases b8 with
  | false => rfl
  | true =>
    have ht := k8 rfl
    cases t1 with
    | true => exact key 6 rfl ht
    | false => exact key 5 rfl ht
end

theorem arenaNames_pure (t0 : List (List UInt8)) (t1 : Bool) : F5 1000 t0 t1 = some true := arenaNames_pureN (Nat.le_refl _) awake9 t0 t1
end Go.Proofs.Ytoonknmckeggaaa.Ab.Ar
