/- Parse: one answer for both. -/
import Derived.Test.YtaeamjhgfhcjdaaDoorPG
namespace Go.Proofs.YtaeamjhgfhcjdaaDoor.Ab.Pt
open Go Go.RowKit Go.Proofs.YtaeamjhgfhcjdaaDoor.Ab
set_option maxRecDepth 100000
set_option linter.unusedVariables false
set_option linter.unusedSimpArgs false

inductive PR where
  | bad (k : Nat) | tend | ok (out : List (List UInt8))

/-- Of the bytes behind a pointer's first sign: what is read so far of a token, and the tokens ahead of it. -/
def R : List UInt8 → Nat → List UInt8 → List (List UInt8) → PR
  | [], _, cur, ds => .ok (ds ++ [cur])
  | [x], i, cur, ds => if x = 47 then .ok (ds ++ [cur] ++ [[]]) else if x = 126 then .tend else .ok (ds ++ [cur ++ [x]])
  | x :: y :: r, i, cur, ds => if x = 47 then R (y :: r) (i + 1) [] (ds ++ [cur]) else if x = 126 then (if y = 48 then R r (i + 2) (cur ++ [126]) ds else if y = 49 then R r (i + 2) (cur ++ [47]) ds else .bad (i + 1)) else R (y :: r) (i + 1) (cur ++ [x]) ds

theorem R_slash (r : List UInt8) (i : Nat) (cur : List UInt8) (ds : List (List UInt8)) : R (47 :: r) i cur ds = R r (i + 1) [] (ds ++ [cur]) := by
  cases r <;> simp [R]
theorem R_plain {x : UInt8} (r : List UInt8) (i : Nat) (cur : List UInt8) (ds : List (List UInt8)) (h1 : x ≠ 47) (h2 : x ≠ 126) : R (x :: r) i cur ds = R r (i + 1) (cur ++ [x]) ds := by
  cases r <;> simp [R, h1, h2]
theorem R_0 (r : List UInt8) (i : Nat) (cur : List UInt8) (ds : List (List UInt8)) : R (126 :: 48 :: r) i cur ds = R r (i + 2) (cur ++ [126]) ds := by simp [R]
theorem R_1 (r : List UInt8) (i : Nat) (cur : List UInt8) (ds : List (List UInt8)) : R (126 :: 49 :: r) i cur ds = R r (i + 2) (cur ++ [47]) ds := by simp [R]
theorem R_bad {y : UInt8} (r : List UInt8) (i : Nat) (cur : List UInt8) (ds : List (List UInt8)) (h1 : y ≠ 48) (h2 : y ≠ 49) : R (126 :: y :: r) i cur ds = .bad (i + 1) := by simp [R, h1, h2]
theorem R_tend (i : Nat) (cur : List UInt8) (ds : List (List UInt8)) : R [126] i cur ds = .tend := by simp [R]

theorem wf_cons {x : UInt8} (h : x ≠ 126) (s : List UInt8) : wf (x :: s) = wf s := by
  cases s <;> simp [wf, h]
theorem wf_0 (s : List UInt8) : wf (126 :: 48 :: s) = wf s := by simp [wf]
theorem wf_1 (s : List UInt8) : wf (126 :: 49 :: s) = wf s := by simp [wf]
theorem unesc_cons {x : UInt8} (h : x ≠ 126) (s : List UInt8) : unesc (x :: s) = x :: unesc s := by
  conv => lhs; unfold unesc
  split <;> simp_all
theorem unesc_0 (s : List UInt8) : unesc (126 :: 48 :: s) = 126 :: unesc s := rfl
theorem unesc_1 (s : List UInt8) : unesc (126 :: 49 :: s) = 47 :: unesc s := rfl

/-- What a segment's scan says of the reading. -/
def ScanOK (l : List UInt8) (pos : Nat) : Sc → Prop
  | .bad k => pos ≤ k ∧ ∀ i cur ds, R l i cur ds = .bad (i + (k - pos))
  | .slash k => pos ≤ k ∧ ∃ seg r, l = seg ++ 47 :: r ∧ seg.length = k - pos ∧ wf seg = true ∧ ∀ i cur ds, R l i cur ds = R r (i + (k - pos) + 1) [] (ds ++ [cur ++ unesc seg])
  | .fin true => ∀ i cur ds, R l i cur ds = .tend
  | .fin false => wf l = true ∧ ∀ i cur ds, R l i cur ds = .ok (ds ++ [cur ++ unesc l])

/-- Behind some bytes that stand for one. -/
theorem ScanOK.behind {p : List UInt8} {z : UInt8} {l : List UInt8} {pos : Nat} (hR : ∀ r i cur ds, R (p ++ r) i cur ds = R r (i + p.length) (cur ++ [z]) ds) (hw : ∀ s, wf (p ++ s) = wf s) (hu : ∀ s, unesc (p ++ s) = z :: unesc s) :
    ∀ {sc : Sc}, ScanOK l (pos + p.length) sc → ScanOK (p ++ l) pos sc
  | .bad k, h => ⟨by have := h.1; omega, fun i cur ds => by
      rw [hR, h.2]; congr 1; have := h.1; omega⟩
  | .slash k, h => by
    obtain ⟨h1, seg, r, rfl, h3, h4, h5⟩ := h
    refine ⟨by omega, p ++ seg, r, by simp, by rw [List.length_append]; omega, by rw [hw, h4], fun i cur ds => ?_⟩
    rw [hR, h5, hu]
    simp only [List.append_assoc, List.singleton_append]
    congr 1; omega
  | .fin true, h => fun i cur ds => by rw [hR]; exact h _ _ _
  | .fin false, h => ⟨by rw [hw]; exact h.1, fun i cur ds => by rw [hR, h.2, hu]; simp⟩

theorem scan_R : ∀ (j : Nat) (l : List UInt8) (pos : Nat), l.length ≤ j → ScanOK l pos (scan l false pos)
  | _, [], pos, _ => ⟨rfl, fun i cur ds => by simp [R, unesc]⟩
  | 0, _ :: _, _, h => by simp at h
  | j + 1, x :: l, pos, h => by
    have hl : l.length ≤ j := by simp at h; omega
    unfold scan
    simp only [Bool.false_and, Bool.false_eq_true, if_false]
    by_cases h47 : x = 47
    · subst h47
      rw [if_pos rfl]
      exact ⟨Nat.le_refl _, [], l, rfl, by simp, rfl, fun i cur ds => by simp [R_slash, unesc]⟩
    · rw [if_neg h47]
      by_cases h126 : x = 126
      · subst h126
        rw [show ((126 : UInt8) == 126) = true from rfl]
        cases l with
        | nil => exact fun i cur ds => R_tend _ _ _
        | cons y r =>
          have hr : r.length ≤ j := by simp at hl; omega
          unfold scan
          by_cases h48 : y = 48
          · subst h48
            have := scan_R j r (pos + 2) hr
            exact ScanOK.behind (p := [126, 48]) (z := 126) (fun r i cur ds => R_0 _ _ _ _) wf_0 unesc_0 this
          · by_cases h49 : y = 49
            · subst h49
              have := scan_R j r (pos + 2) hr
              exact ScanOK.behind (p := [126, 49]) (z := 47) (fun r i cur ds => R_1 _ _ _ _) wf_1 unesc_1 this
            · have : (true && y != 48 && y != 49) = true := by rw [bne_iff_ne.2 h48, bne_iff_ne.2 h49]; rfl
              rw [if_pos this]
              exact ⟨by omega, fun i cur ds => by rw [R_bad _ _ _ _ h48 h49]; congr 1; omega⟩
      · have : (x == 126) = false := beq_eq_false_iff_ne.2 h126
        rw [this]
        exact ScanOK.behind (p := [x]) (z := x) (fun r i cur ds => R_plain _ _ _ _ h47 h126) (wf_cons h126) (unesc_cons h126) (scan_R j l (pos + 1) hl)

/-! ### pointer.Parse -/

def done13 (t6 : Int) (t7 : Bool) : PR → PRes
  | .bad k => ([], (k : Int), false)
  | .tend => ([], t6, false)
  | .ok out => if t7 then (out, t6, true) else ([], t6, false)

theorem room16 (m : Nat) (h : m ≤ 200000) : (decide (m * 16 ≤ maxRoom) && decide (m ≤ maxRoom)) = true := by
  rw [Bool.and_eq_true, decide_eq_true_eq, decide_eq_true_eq]
  unfold maxRoom
  omega

theorem F13_step2 (n : Nat) (r0 : Int → Bool → List (List UInt8) → List UInt8 → Int → Option PRes) (t6 : Int) (t7 : Bool) (t8 : List (List UInt8)) (seg r : List UInt8) (at' : Nat) (hw : wf seg = true) (hl : (seg ++ r).length ≤ 90000) (h8 : t8.length ≤ 90000) (ha : at' ≤ 90000) :
    F13j2 n r0 t6 t7 t8 (47 :: (seg ++ r)) (at' : Int) (1 + (seg.length : Int)) = r0 t6 t7 (t8 ++ [unesc seg]) r ((at' + 1 + seg.length : Nat) : Int) := by
  simp only [List.length_append] at hl
  have c1 : cutB 1 (1 + (seg.length : Int)) (47 :: (seg ++ r)).length = true := by simp [cutB]; omega
  have c2 : cutB (1 + (seg.length : Int)) ((47 :: (seg ++ r)).length : Int) (47 :: (seg ++ r)).length = true := by simp [cutB]; omega
  have e1 : (((47 :: (seg ++ r)).drop (Int.toNat 1)).take (Int.toNat (1 + (seg.length : Int)) - Int.toNat 1)) = seg := by
    rw [show Int.toNat (1 + (seg.length : Int)) - Int.toNat 1 = seg.length by omega]
    simp
  have e2 : (((47 :: (seg ++ r)).drop (Int.toNat (1 + (seg.length : Int)))).take (Int.toNat ((47 :: (seg ++ r)).length : Int) - Int.toNat (1 + (seg.length : Int)))) = r := by
    rw [show Int.toNat (1 + (seg.length : Int)) = seg.length + 1 by omega, List.drop_succ_cons]
    simp
    apply List.take_of_length_le
    omega
  unfold F13j2
  rw [c1, e1, F36_eq n seg (by omega) hw, c2, e2]
  have hr := room16 (t8.length + ([unesc seg] : List (List UInt8)).length) (by simp; omega)
  simp only [cond_true, hr]
  rw [wrap64 (by omega) (by omega)]
  congr 1
  omega

theorem F13_loop (n : Nat) : ∀ (j : Nat) (s : List UInt8) (at' : Nat) (t6 : Int) (t7 : Bool) (t8 : List (List UInt8)) (m : Nat), s.length ≤ j → t6 = ((at' + 1 + s.length : Nat) : Int) → at' + 1 + s.length ≤ 80000 → t8.length ≤ at' → s.length + 2 ≤ m → s.length + 2 ≤ n →
    F13l0 n m t6 t7 t8 (47 :: s) (at' : Int) = some (done13 t6 t7 (R s (at' + 1) [] t8)) := by
  intro j
  induction j with
  | zero =>
    intro s at' t6 t7 t8 m hj h6 hb h8 hm hn
    have : s = [] := List.length_eq_zero_iff.1 (by omega)
    subst this
    obtain ⟨m, rfl⟩ : ∃ j, m = j + 2 := ⟨m - 2, by simp at hm; omega⟩
    have hlt : decide ((at' : Int) < t6) = true := decide_eq_true (by rw [h6]; simp; omega)
    have hin := F13_inner n (F13l0 n (m + 1)) t6 t7 t8 [47] (at' : Int) 1 (by omega) 0 [] [] false n (by simp) (by simp) (by simp at hn ⊢; omega)
    have h2 := F13_step2 n (F13l0 n (m + 1)) t6 t7 t8 [] [] at' rfl (by simp) (by omega) (by omega)
    have hge : decide (((at' + 1 + ([] : List UInt8).length : Nat) : Int) < t6) = false := decide_eq_false (by rw [h6]; omega)
    rw [F13l0, F13l0F, hlt]
    have i0 : inB 0 ([47] : List UInt8).length = true := rfl
    have b47 : (((([47] : List UInt8).getD (Int.toNat 0) 0).toNat : Int) != 47) = false := rfl
    have c1 : cutB 1 (([47] : List UInt8).length : Int) ([47] : List UInt8).length = true := rfl
    simp only [i0, b47, c1, cond_true, cond_false]
    have e : ((([47] : List UInt8).drop (Int.toNat 1)).take (Int.toNat (([47] : List UInt8).length : Int) - Int.toNat 1)) = [] := rfl
    rw [e]
    refine Eq.trans hin ?_
    simp only [scan]
    unfold F13j1
    rw [cond_false]
    refine Eq.trans h2 ?_
    rw [F13l0, F13l0F, hge]
    simp only [cond_false, R, unesc, done13]
    cases t7 <;> simp
  | succ j ih =>
    intro s at' t6 t7 t8 m hj h6 hb h8 hm hn
    obtain ⟨m, rfl⟩ : ∃ j, m = j + 2 := ⟨m - 2, by omega⟩
    have hlt : decide ((at' : Int) < t6) = true := decide_eq_true (by rw [h6]; omega)
    have hin := F13_inner n (F13l0 n (m + 1)) t6 t7 t8 (47 :: s) (at' : Int) ((47 :: s).length : Int) (by omega) s.length s [] false n (Nat.le_refl _) (by simp; omega) (by omega)
    have i0 : inB 0 (47 :: s).length = true := by simp [inB]
    have b47 : ((((47 :: s).getD (Int.toNat 0) 0).toNat : Int) != 47) = false := by simp
    have c1 : cutB 1 ((47 :: s).length : Int) (47 :: s).length = true := by simp [cutB]; omega
    have e : ((((47 :: s)).drop (Int.toNat 1)).take (Int.toNat ((47 :: s).length : Int) - Int.toNat 1)) = s := by simp
    rw [F13l0, F13l0F, hlt, i0, b47, c1, e]
    simp only [cond_true, cond_false]
    refine Eq.trans hin ?_
    have hsc := scan_R s.length s 0 (Nat.le_refl _)
    rw [List.length_nil]
    cases hs : scan s false 0 with
    | bad k =>
      rw [hs] at hsc
      have := hsc.2 (at' + 1) [] t8
      simp only [this, done13]
      simp
    | slash k =>
      rw [hs] at hsc
      obtain ⟨_, seg, r, rfl, h3, h4, h5⟩ := hsc
      simp only [Nat.sub_zero] at h3 h5
      subst h3
      simp only
      unfold F13j1
      rw [cond_false]
      simp only [List.length_append, List.length_cons] at hb hj hm hn h6
      refine (F13_step2 n _ t6 t7 t8 seg (47 :: r) at' h4 (by simp; omega) (by omega) (by omega)).trans ?_
      rw [h5]
      have := ih r (at' + 1 + seg.length) t6 t7 (t8 ++ [unesc seg]) (m + 1) (by omega) (by rw [h6]; congr 1; omega) (by omega) (by simp; omega) (by omega) (by omega)
      rw [this]
      rfl
    | fin t =>
      rw [hs] at hsc
      cases t with
      | true =>
        have := hsc (at' + 1) [] t8
        simp only [this, done13]
        unfold F13j1
        simp
      | false =>
        have h5 := hsc.2 (at' + 1) [] t8
        simp only [h5, done13]
        unfold F13j1
        rw [cond_false]
        have h2 := F13_step2 n (F13l0 n (m + 1)) t6 t7 t8 s [] at' hsc.1 (by simp; omega) (by omega) (by omega)
        rw [List.append_nil] at h2
        rw [show (((47 :: s).length : Nat) : Int) = 1 + (s.length : Int) by simp; omega]
        refine h2.trans ?_
        have hge : decide (((at' + 1 + s.length : Nat) : Int) < t6) = false := decide_eq_false (by rw [h6]; omega)
        rw [F13l0, F13l0F, hge]
        cases t7 <;> simp

/-- What is told of a text. -/
def parseS (p : List UInt8) : PRes :=
  let u := U (bytesOf p) 0 [] 0 0 0
  match p.take u.2.1 with
  | [] => ([], (u.2.1 : Int), u.2.2)
  | x :: l => if x = 47 then done13 (u.2.1 : Int) u.2.2 (R l 1 [] []) else ([], 0, false)

theorem U_le : ∀ (l : List Int) (pos : Nat) (acc : List Int) (k : Nat) (f c : Int), pos ≤ (U l pos acc k f c).2.1 ∧ (U l pos acc k f c).2.1 ≤ pos + l.length ∧ ((U l pos acc k f c).2.2 = true → (U l pos acc k f c).2.1 = pos + l.length)
  | [], pos, acc, k, f, c => by unfold U; split <;> simp
  | x :: l, pos, acc, k, f, c => by
    have h := fun acc k f c => U_le l (pos + 1) acc k f c
    unfold U
    simp only [List.length_cons]
    split
    · split
      · obtain ⟨h1, h2, h3⟩ := h (acc ++ [x]) 0 f c; exact ⟨by omega, by omega, fun e => by have := h3 e; omega⟩
      · split
        · simp
        · obtain ⟨h1, h2, h3⟩ := h acc 1 x (lead x); exact ⟨by omega, by omega, fun e => by have := h3 e; omega⟩
    · split
      · split
        · obtain ⟨h1, h2, h3⟩ := h acc (k + 1) f (c * 64 + (x - 128)); exact ⟨by omega, by omega, fun e => by have := h3 e; omega⟩
        · obtain ⟨h1, h2, h3⟩ := h (acc ++ [c * 64 + (x - 128)]) 0 f (c * 64 + (x - 128)); exact ⟨by omega, by omega, fun e => by have := h3 e; omega⟩
      · simp

theorem bytes_isB (p : List UInt8) : ∀ x ∈ bytesOf p, isB x := by
  intro x hx
  obtain ⟨b, _, rfl⟩ := List.mem_map.1 hx
  have := byte_lt b
  exact ⟨by omega, by omega⟩

theorem bytes_len (p : List UInt8) : (bytesOf p).length = p.length := by simp [bytesOf]

theorem F13_eq (n : Nat) (p : List UInt8) (hp : p.length ≤ 70000) (hn : p.length + 10 ≤ n) : F13 n p = some (parseS p) := by
  unfold F13
  rw [F35_eq n _ (bytes_isB p) (by rw [bytes_len]; omega) (by rw [bytes_len]; omega)]
  obtain ⟨u1, u2, u3⟩ := U_le (bytesOf p) 0 [] 0 0 0
  rw [bytes_len, Nat.zero_add] at u2 u3
  unfold parseS
  generalize U (bytesOf p) 0 [] 0 0 0 = u at *
  obtain ⟨rs, k, ok⟩ := u
  simp only [outU] at u2 u3 ⊢
  have hc : cutB 0 (k : Int) p.length = true := by simp [cutB]; omega
  have ht : (((p).drop (Int.toNat 0)).take (Int.toNat (k : Int) - Int.toNat 0)) = p.take k := by simp
  have hlen : (p.take k).length = k := by rw [List.length_take]; omega
  rw [hc, ht, cond_true]
  obtain ⟨n', rfl⟩ : ∃ j, n = j + 1 := ⟨n - 1, by omega⟩
  cases hq : p.take k with
  | nil =>
    rw [hq] at hlen
    simp at hlen
    subst hlen
    rw [F13l0, F13l0F]
    cases ok <;> simp
  | cons x l =>
    rw [hq] at hlen
    simp only [List.length_cons] at hlen
    simp only
    by_cases h47 : x = 47
    · subst h47
      rw [if_pos rfl]
      have := F13_loop (n' + 1) l.length l 0 (k : Int) ok [] (n' + 1) (Nat.le_refl _) (by omega) (by omega) (by simp) (by omega) (by omega)
      exact this
    · rw [if_neg h47, F13l0, F13l0F]
      have hlt : decide ((0 : Int) < (k : Int)) = true := decide_eq_true (by omega)
      have i0 : inB 0 (x :: l).length = true := by simp [inB]
      have b47 : ((((x :: l).getD (Int.toNat 0) 0).toNat : Int) != 47) = true := by
        have : x.toNat ≠ 47 := fun h => h47 (UInt8.toNat_inj.1 (h.trans (by decide)))
        simp [bne_iff_ne]; omega
      rw [hlt, i0, b47]
      rfl

end Go.Proofs.YtaeamjhgfhcjdaaDoor.Ab.Pt
