/- Sizes in an arena. -/
import Derived.Test.YtoonknmckeggaaaAS
namespace Go.Proofs.Ytoonknmckeggaaa.Ab.Ar
open Go Go.RowKit
set_option maxRecDepth 100000
set_option linter.unusedVariables false
set_option linter.unusedSimpArgs false

theorem wrap64 {x : Int} (h1 : -9223372036854775808 ≤ x) (h2 : x ≤ 9223372036854775807) : IntKind.wrap .i64 x = x := by
  simp only [IntKind.wrap, IntKind.bits, IntKind.signed]
  simp
  omega

def szF (ps : List Int) : Nat → Nat → Nat
  | 0, _ => 0
  | m + 1, i => 1 + ((K ps (i : Int) 0).map (szF ps m)).sum

/-- How many nodes stand below, and it. -/
def sz (ps : List Int) (i : Nat) : Nat := szF ps (ps.length - i) i

section
variable {ds : List Dt} {ps : List Int}

theorem kid_gt (h : Ok ds ps) {i j : Nat} (hj : j ∈ K ps (i : Int) 0) : i < j ∧ j < ps.length := by
  obtain ⟨_, h1⟩ := mem_K'.1 hj
  have hlt := (List.getElem?_eq_some_iff.1 h1).1
  refine ⟨?_, hlt⟩
  rcases h.par _ _ h1 with ⟨_, h2⟩ | ⟨_, h2⟩ <;> omega

theorem szF_stable (h : Ok ds ps) : ∀ (m m' i : Nat), i < ps.length → ps.length - i ≤ m → ps.length - i ≤ m' → szF ps m i = szF ps m' i := by
  intro m
  induction m with
  | zero => intro m' i h1 h2; omega
  | succ m ih =>
    intro m' i h1 h2 h3
    obtain ⟨m', rfl⟩ : ∃ k, m' = k + 1 := ⟨m' - 1, by omega⟩
    simp only [szF]
    congr 2
    refine List.map_congr_left fun j hj => ?_
    obtain ⟨h4, h5⟩ := kid_gt h hj
    exact ih m' j h5 (by omega) (by omega)

theorem sz_eq (h : Ok ds ps) {i : Nat} (hi : i < ps.length) : sz ps i = 1 + ((K ps (i : Int) 0).map (sz ps)).sum := by
  unfold sz
  obtain ⟨m, hm⟩ : ∃ m, ps.length - i = m + 1 := ⟨ps.length - i - 1, by omega⟩
  rw [hm]
  simp only [szF]
  congr 2
  refine List.map_congr_left fun j hj => ?_
  obtain ⟨h4, h5⟩ := kid_gt h hj
  exact szF_stable h _ _ _ h5 (by omega) (Nat.le_refl _)

/-- A sum over numbers in a row. -/
def sumF (f : Nat → Nat) : Nat → Nat → Nat
  | 0, _ => 0
  | c + 1, a => f a + sumF f c (a + 1)

theorem sumF_add (f g : Nat → Nat) : ∀ c a, sumF (fun j => f j + g j) c a = sumF f c a + sumF g c a
  | 0, _ => rfl
  | c + 1, a => by simp only [sumF, sumF_add f g c (a + 1)]; omega
theorem sumF_congr {f g : Nat → Nat} : ∀ c a, (∀ j, a ≤ j → f j = g j) → sumF f c a = sumF g c a
  | 0, _, _ => rfl
  | c + 1, a, h => by simp only [sumF, h a (Nat.le_refl _), sumF_congr c (a + 1) (fun j hj => h j (by omega))]
theorem sum_K (g : Nat → Nat) {q : Int} : ∀ (m a : Nat), ps.length - a = m → ((K ps q a).map g).sum = sumF (fun j => if parOf ps j = q then g j else 0) m a
  | 0, a, h => by rw [K_ge (by omega)]; rfl
  | m + 1, a, h => by
    have ha : a < ps.length := by omega
    have e : ps[a] = parOf ps a := by have := parOf_lt ha; rw [List.getElem?_eq_getElem ha] at this; exact Option.some.inj this
    rw [K_step ha, e]
    simp only [sumF]
    have ih := sum_K g (q := q) m (a + 1) (by omega)
    split
    · rw [List.map_cons, List.sum_cons, ih]
    · rw [ih]; omega
theorem le_sumF {f : Nat → Nat} : ∀ (c a j : Nat), a ≤ j → j < a + c → f j ≤ sumF f c a
  | 0, a, j, h1, h2 => by omega
  | c + 1, a, j, h1, h2 => by
    simp only [sumF]
    by_cases e : j = a
    · subst e; omega
    · have := le_sumF (f := f) c (a + 1) j (by omega) (by omega)
      omega

/-- What hangs down over a level. -/
def cut (ps : List Int) (k : Nat) : Nat := sumF (fun j => if parOf ps j < (k : Int) then sz ps j else 0) (ps.length - k) k

theorem K_zero (h : Ok ds ps) {i : Nat} (hi : i < ps.length) : K ps (i : Int) 0 = K ps (i : Int) (i + 1) := by
  have key : ∀ (a : Nat), a ≤ i + 1 → K ps (i : Int) 0 = K ps (i : Int) a := by
    intro a
    induction a with
    | zero => exact fun _ => rfl
    | succ a ih =>
      intro ha
      rw [ih (by omega), K_step (show a < ps.length by omega), if_neg]
      intro e
      have h1 : ps[a]? = some (i : Int) := by rw [List.getElem?_eq_getElem (by omega), e]
      rcases h.par _ _ h1 with ⟨_, h2⟩ | ⟨_, h2⟩ <;> omega
  exact key (i + 1) (Nat.le_refl _)

theorem cut_eq (h : Ok ds ps) : ∀ (m k : Nat), ps.length - k = m → k ≤ ps.length → cut ps k = m
  | 0, k, hm, hk => by unfold cut; rw [hm]; rfl
  | m + 1, k, hm, hk => by
    have hlt : k < ps.length := by omega
    have ih := cut_eq h m (k + 1) (by omega) (by omega)
    unfold cut at ih ⊢
    rw [hm]
    rw [show ps.length - (k + 1) = m by omega] at ih
    simp only [sumF]
    have hp : parOf ps k < (k : Int) := by
      rcases parOf_range h hlt with ⟨_, h1⟩ | ⟨q, h1, h2⟩ <;> omega
    rw [if_pos hp, sz_eq h hlt, K_zero h hlt, sum_K (sz ps) m (k + 1) (by omega)]
    have e : sumF (fun j => if parOf ps j < ((k + 1 : Nat) : Int) then sz ps j else 0) m (k + 1) = sumF (fun j => if parOf ps j = (k : Int) then sz ps j else 0) m (k + 1) + sumF (fun j => if parOf ps j < (k : Int) then sz ps j else 0) m (k + 1) := by
      rw [← sumF_add]
      refine sumF_congr _ _ fun j _ => ?_
      by_cases h1 : parOf ps j = (k : Int)
      · rw [if_pos (by omega), if_pos h1, if_neg (by omega)]; rfl
      · by_cases h2 : parOf ps j < (k : Int)
        · rw [if_pos (by omega), if_neg h1, if_pos h2]; omega
        · rw [if_neg (by omega), if_neg h1, if_neg h2]
    rw [e] at ih
    omega

theorem sz_le (h : Ok ds ps) {i : Nat} (hi : i < ps.length) : sz ps i ≤ ps.length - i := by
  have h1 := cut_eq h _ i rfl (by omega)
  have hp : parOf ps i < (i : Int) := by
    rcases parOf_range h hi with ⟨_, h1⟩ | ⟨q, h1, h2⟩ <;> omega
  have := le_sumF (f := fun j => if parOf ps j < (i : Int) then sz ps j else 0) (ps.length - i) i i (Nat.le_refl _) (by omega)
  simp only [if_pos hp] at this
  unfold cut at h1
  omega

theorem sz_pos (h : Ok ds ps) {i : Nat} (hi : i < ps.length) : 1 ≤ sz ps i := by rw [sz_eq h hi]; omega

/-! ### By a stack -/

theorem len_le_sum (h : Ok ds ps) : ∀ (l : List Nat), (∀ j ∈ l, j < ps.length) → l.length ≤ (l.map (sz ps)).sum
  | [], _ => by simp
  | j :: r, hj => by
    have := len_le_sum h r fun k hk => hj k (by simp [hk])
    have h1 := sz_pos h (hj j (by simp))
    simp
    omega

theorem stack (h : Ok ds ps) (n : Nat) (hn : 1000 ≤ n) : ∀ (T : Nat) (l : List Nat) (c : Int) (m : Nat), (l.map (sz ps)).sum = T → (∀ j ∈ l, j < ps.length) → T ≤ 400 → 0 ≤ c → c + T ≤ 1000 → T + 1 ≤ m →
    F23l0 n m (A1 ds ps) c (ints l) = some (c + T) := by
  intro T
  induction T using Nat.strongRecOn with
  | ind T ih =>
    intro l c m hT hl hb hc hcT hm
    obtain ⟨m, rfl⟩ : ∃ k, m = k + 1 := ⟨m - 1, by omega⟩
    show F23l0F n _ _ _ _ = _
    unfold F23l0F
    rcases List.eq_nil_or_concat l with rfl | ⟨r, j, hrj⟩
    · simp at hT
      subst hT
      simp
    · rw [List.concat_eq_append] at hrj
      subst hrj
      have hj : j < ps.length := hl j (by simp)
      have hsum : (r.map (sz ps)).sum + sz ps j = T := by rw [← hT]; simp
      have e1 : decide (((ints (r ++ [j])).length : Int) > 0) = true := by simp
      have hlen : (ints (r ++ [j])).length = r.length + 1 := by simp
      have e2 : IntKind.wrap .i64 (((ints (r ++ [j])).length : Int) - 1) = (r.length : Int) := by
        rw [hlen]
        have := len_le_sum h r fun k hk => hl k (by simp [hk])
        rw [wrap64 (by omega) (by omega)]
        omega
      have e3 : inB (r.length : Int) (ints (r ++ [j])).length = true := by rw [hlen]; exact inB_nat (by omega)
      have e4 : cutB 0 (r.length : Int) (ints (r ++ [j])).length = true := by rw [hlen]; simp [cutB]; omega
      have e5 : (ints (r ++ [j])).getD (Int.toNat (r.length : Int)) (Ty.dflt (.int .i64)) = (j : Int) := by
        rw [Int.toNat_natCast]; simp [List.getD]
      have e6 : (ints (r ++ [j])).take (Int.toNat (r.length : Int)) = ints r := by
        rw [Int.toNat_natCast]; simp
      have hkl : ∀ k ∈ K ps (j : Int) 0, k < ps.length := fun k hk => (kid_gt h hk).2
      have hszj := sz_eq h hj
      have hall : ∀ k ∈ r ++ K ps (j : Int) 0, k < ps.length := fun k hk => (List.mem_append.1 hk).elim (fun hk => hl k (by simp [hk])) (hkl k)
      have hsum2 : ((r ++ K ps (j : Int) 0).map (sz ps)).sum = T - 1 := by rw [List.map_append, List.sum_append]; omega
      have hle := len_le_sum h _ hall
      have hle' : r.length + (K ps (j : Int) 0).length ≤ 400 := by rw [hsum2, List.length_append] at hle; omega
      simp only [e1, e2, e3, e4, e5, e6, cond_true, kids_in n h hn hj]
      have e7 : (decide (((ints r).length + (ints (K ps (j : Int) 0)).length) * 8 ≤ maxRoom) && decide ((ints r).length + (ints (K ps (j : Int) 0)).length ≤ maxRoom)) = true := by
        rw [List.length_map, List.length_map]
        exact room8 _ (by omega)
      rw [e7, cond_true, wrap64 (by omega) (by omega), show ints r ++ ints (K ps (j : Int) 0) = ints (r ++ K ps (j : Int) 0) by simp]
      rw [ih (T - 1) (by omega) _ (c + 1) m hsum2 hall (by omega) (by omega) (by omega) (by omega)]
      congr 1
      omega

theorem size_in (h : Ok ds ps) (n : Nat) (hn : 1000 ≤ n) {i : Nat} (hi : i < ps.length) : F23 n (A1 ds ps) (i : Int) = some (sz ps i : Int) := by
  have h1 := sz_le h hi
  have h2 := h.le
  have := stack h n hn (sz ps i) [i] 0 n (by simp) (by simpa using hi) (by omega) (by omega) (by omega) (by omega)
  unfold F23
  rw [F24_in n hi]
  simpa using this

/-! ### By recursion -/

theorem rec28 (h : Ok ds ps) : ∀ (d i : Nat), ps.length - i = d → i < ps.length → ∀ n, d + 300 ≤ n → F28 n (A2 ds ps) (i : Int) = some (sz ps i : Int) := by
  intro d
  induction d using Nat.strongRecOn with
  | ind d ih =>
    intro i hd hi n hn
    obtain ⟨n, rfl⟩ : ∃ k, n = k + 1 := ⟨n - 1, by omega⟩
    have loop : ∀ (l : List Nat) (a : Nat), K ps (i : Int) a = l → ∀ (m : Nat) (c : Int), l.length + 1 ≤ m → 0 ≤ c → c + (l.map (sz ps)).sum ≤ 1000 → F28l0 (F28 n) n m (A2 ds ps) c (Ar.hd l) = some (c + ((l.map (sz ps)).sum : Nat)) := by
      intro l
      induction l with
      | nil =>
        intro a e m c hm hc hs
        obtain ⟨m, rfl⟩ : ∃ k, m = k + 1 := ⟨m - 1, by omega⟩
        show F28l0F _ n _ _ _ _ = _
        unfold F28l0F
        simp [Ar.hd]
      | cons j r ihl =>
        intro a e m c hm hc hs
        simp only [List.length_cons] at hm
        simp only [List.map_cons, List.sum_cons] at hs
        obtain ⟨m, rfl⟩ : ∃ k, m = k + 1 := ⟨m - 1, by omega⟩
        obtain ⟨_, h1, h2⟩ := K_cons rfl e
        have hlt := (List.getElem?_eq_some_iff.1 h1).1
        have hgt : i < j := (kid_gt h (mem_K'.2 ⟨Nat.zero_le _, h1⟩)).1
        have e1 : decide ((j : Int) ≥ 0) = true := by simp
        show F28l0F _ n _ _ _ (j : Int) = _
        unfold F28l0F
        have hrec := ih (ps.length - j) (by omega) j rfl hlt n (by omega)
        simp only [e1, cond_true, hrec, A2, Option.isSome_some, Option.getD_some, rl1, inB_nat hlt, Int.toNat_natCast, rg1 hlt, node_next h1]
        rw [← h2, wrap64 (by omega) (by omega), ihl (j + 1) h2.symm m _ (by omega) (by omega) (by omega)]
        simp only [List.map_cons, List.sum_cons]
        congr 1
        omega
    show F28B (F28 n) n _ _ = _
    unfold F28B
    rw [F31_in n hi]
    have hkl := K_len (ps := ps) (q := (i : Int)) (a := 0) rfl
    have hle := h.le
    have h1 := sz_le h hi
    have h2 := sz_eq h hi
    simp only [A2, Option.isSome_some, Option.getD_some, Bool.not_true, cond_false, cond_true, rl1, inB_nat hi, Int.toNat_natCast, rg1 hi]
    have := loop _ 0 rfl n 1 (by omega) (by omega) (by omega)
    refine Eq.trans this ?_
    rw [h2]
    first | rfl | (congr 1; omega)

theorem size_both (h : Ok ds ps) (n : Nat) (hn : 1000 ≤ n) {i : Nat} (hi : i < ps.length) : F23 n (A1 ds ps) (i : Int) = some (sz ps i : Int) ∧ F28 n (A2 ds ps) (i : Int) = some (sz ps i : Int) :=
  ⟨size_in h n hn hi, rec28 h _ i rfl hi n (by have := h.le; omega)⟩
theorem size_out (n : Nat) (hn : 1000 ≤ n) {i : Int} (h : ¬ (0 ≤ i ∧ i < (ps.length : Int))) : F23 n (A1 ds ps) i = some 0 ∧ F28 n (A2 ds ps) i = some 0 := by
  obtain ⟨m, rfl⟩ : ∃ m, n = m + 1 := ⟨n - 1, by omega⟩
  constructor
  · unfold F23; rw [F24_out _ h]; rfl
  · show F28B _ _ _ _ = _
    unfold F28B
    rw [F31_out _ h]
    rfl
end
end Go.Proofs.Ytoonknmckeggaaa.Ab.Ar
