/- The law ArenaTree: its answer. -/
import Derived.Test.YtoonknmckeggaaaAV
namespace Go.Proofs.Ytoonknmckeggaaa.Ab.Ar
open Go Go.RowKit
set_option maxRecDepth 100000
set_option linter.unusedVariables false
set_option linter.unusedSimpArgs false

section
variable {ds : List Dt} {ps : List Int}

/-- How many open ones, from here up. -/
def dc (ds : List Dt) (ps : List Int) : Nat → Nat → Nat
  | 0, _ => 0
  | m + 1, i =>
    let c' := if (dtOf ds i).1 = 5 ∨ (dtOf ds i).1 = 6 then 1 else 0
    if parOf ps i < 0 then c' else c' + dc ds ps m (parOf ps i).toNat

theorem dc_le : ∀ (m i : Nat), dc ds ps m i ≤ m
  | 0, _ => Nat.le_refl _
  | m + 1, i => by
    have := dc_le m (parOf ps i).toNat
    simp only [dc]
    split <;> split <;> omega

theorem depF_dc : ∀ (m i : Nat) (c : Int), 0 ≤ c → c + m ≤ 1000000 → depF ds ps m i c = c + (dc ds ps m i : Nat)
  | 0, i, c, h1, h2 => by simp [depF, dc]
  | m + 1, i, c, h1, h2 => by
    simp only [depF, dc]
    have hw : IntKind.wrap .i64 (c + 1) = c + 1 := wrap64 (by omega) (by omega)
    rw [hw]
    by_cases ho : (dtOf ds i).1 = 5 ∨ (dtOf ds i).1 = 6
    · simp only [if_pos ho]
      split
      · omega
      · rw [depF_dc m _ (c + 1) (by omega) (by omega)]; omega
    · simp only [if_neg ho]
      split
      · omega
      · rw [depF_dc m _ c (by omega) (by omega)]; omega

theorem dc_stable (h : Ok ds ps) : ∀ (a b i : Nat), i < a → i < b → i < ps.length → dc ds ps a i = dc ds ps b i := by
  intro a
  induction a with
  | zero => intro b i h1; omega
  | succ a iha =>
    intro b i h1 h2 h3
    obtain ⟨b, rfl⟩ : ∃ k, b = k + 1 := ⟨b - 1, by omega⟩
    simp only [dc]
    split
    · rfl
    · rename_i hneg
      rcases parOf_range h h3 with ⟨_, h4⟩ | ⟨q', h4, h5⟩
      · omega
      · rw [h4, Int.toNat_natCast, iha b q' (by omega) (by omega) (by omega)]

theorem depth_kid (h : Ok ds ps) (n : Nat) (hn : 1000 ≤ n) {i j : Nat} (hi : i < ps.length) (hj : j ∈ K ps (i : Int) 0) (ho : (dtOf ds j).1 = 5 ∨ (dtOf ds j).1 = 6) :
    ∃ r, F22 n (A1 ds ps) (i : Int) = some r ∧ F22 n (A1 ds ps) (j : Int) = some (IntKind.wrap .i64 (r + 1)) := by
  obtain ⟨h1, h2⟩ := kid_gt h hj
  have hle := h.le
  have hp : parOf ps j = (i : Int) := by
    have := (mem_K'.1 hj).2
    rw [parOf_lt h2] at this
    exact Option.some.inj this
  refine ⟨_, (depth_in h n hn hi).1, ?_⟩
  rw [(depth_in h n hn h2).1, depF_dc _ _ _ (by omega) (by omega), depF_dc _ _ _ (by omega) (by omega)]
  have hd := dc_le (ds := ds) (ps := ps) (i + 1) i
  rw [wrap64 (by omega) (by omega)]
  have : dc ds ps (j + 1) j = 1 + dc ds ps (i + 1) i := by
    show (if parOf ps j < 0 then _ else _) = _
    rw [if_pos ho, hp, if_neg (by omega), Int.toNat_natCast, dc_stable h j (i + 1) i (by omega) (by omega) hi]
  rw [this]
  congr 1
  omega

/-- Every node is an empty list but for its kids. -/
def Plain (ds : List Dt) : Prop := ∀ (i : Nat) (d : Dt), ds[i]? = some d → d = (5, false, 0, [], [])

theorem dtOf_plain (h : Ok ds ps) (hp : Plain ds) {i : Nat} (hi : i < ps.length) : dtOf ds i = (5, false, 0, [], []) := by
  have : ds[i]? = some (dtOf ds i) := by
    unfold dtOf; rw [List.getD_eq_getElem?_getD, List.getElem?_eq_getElem (by rw [h.len]; exact hi)]; rfl
  exact hp i _ this

variable {n : Nat} (hn : 1000 ≤ n) (haw : F9 n = some true)

include hn in
theorem kids_loop (h : Ok ds ps) (hpl : Plain ds) (t0 : List Int) {i : Nat} (hi : i < ps.length) (r1 : List Int → Int → List NodeI → Option Bool) (hr : r1 t0 (IntKind.wrap .i64 ((i : Int) + 1)) (build ds ps) = some true) :
    ∀ (d k a : Nat) (pre : List Nat), pre ++ K ps (i : Int) a = K ps (i : Int) 0 → pre.length = k → (K ps (i : Int) a).length = d → (∀ x, K ps (i : Int) a = x :: (K ps (i : Int) a).tail → True) →
      ∀ (m : Nat) (prev : Nat), d + 1 ≤ m → (∀ j ∈ K ps (i : Int) a, prev < j) →
      F4l2 n r1 m t0 (i : Int) (ints (K ps (i : Int) 0)) ((1 + (pre.map (sz ps)).sum : Nat) : Int) (prev : Int) (k : Int) (build ds ps) = some true := by
  intro d
  have hle := h.le
  have hkl := K_len (ps := ps) (q := (i : Int)) (a := 0) rfl
  have hszi := sz_eq h hi
  have hszl := sz_le h hi
  induction d with
  | zero =>
    intro k a pre hpre hk hd _ m prev hm hprev
    obtain ⟨m, rfl⟩ : ∃ q, m = q + 1 := ⟨m - 1, by omega⟩
    have hnil : K ps (i : Int) a = [] := List.length_eq_zero_iff.1 hd
    rw [hnil, List.append_nil] at hpre
    show F4l2F n _ _ _ _ _ _ _ _ _ = _
    unfold F4l2F
    rw [decide_eq_false (by rw [← hpre]; simp; omega)]
    have e1 : F23 n (some (build ds ps, ())) (i : Int) = some (sz ps i : Int) := size_in h n hn hi
    have e2 : ((sz ps i : Int) != ((1 + (pre.map (sz ps)).sum : Nat) : Int)) = false := by rw [hszi, hpre]; simp
    simp only [cond_false, e1, e2]
    exact hr
  | succ d ih =>
    intro k a pre hpre hk hd _ m prev hm hprev
    obtain ⟨m, rfl⟩ : ∃ q, m = q + 1 := ⟨m - 1, by omega⟩
    obtain ⟨j, r, hjr⟩ : ∃ j r, K ps (i : Int) a = j :: r := by
      cases hK : K ps (i : Int) a with
      | nil => rw [hK] at hd; cases hd
      | cons j r => exact ⟨j, r, rfl⟩
    obtain ⟨h1, h2, h3⟩ := K_cons rfl hjr
    have hjlt := (List.getElem?_eq_some_iff.1 h2).1
    have hjm : j ∈ K ps (i : Int) 0 := mem_K'.2 ⟨Nat.zero_le _, h2⟩
    have hall : K ps (i : Int) 0 = pre ++ j :: r := by rw [← hpre, hjr]
    have hklen : k < (ints (K ps (i : Int) 0)).length := by rw [hall]; simp; omega
    have hkl2 : (ints (K ps (i : Int) 0)).length = (K ps (i : Int) 0).length := by simp
    have hg : (ints (K ps (i : Int) 0)).getD (Int.toNat (k : Int)) (Ty.dflt (.int .i64)) = (j : Int) := by
      rw [Int.toNat_natCast, hall, ← hk]
      simp [List.getD]
    have hjp := hprev j (by rw [hjr]; simp)
    have e1 : decide ((j : Int) ≤ (prev : Int)) = false := decide_eq_false (by omega)
    have hpar : parOf ps j = (i : Int) := by
      rw [parOf_lt hjlt] at h2
      exact Option.some.inj h2
    have e2 : F21 n (some (build ds ps, ())) (j : Int) = some (i : Int) := by rw [← hpar]; exact (par_in n hjlt).1
    obtain ⟨rd, hd1, hd2⟩ := depth_kid h n hn hi hjm (.inl (by rw [dtOf_plain h hpl hjlt]))
    have e3 : F22 n (some (build ds ps, ())) (j : Int) = some (IntKind.wrap .i64 (rd + 1)) := hd2
    have e4 : F22 n (some (build ds ps, ())) (i : Int) = some rd := hd1
    have e5 : F23 n (some (build ds ps, ())) (j : Int) = some (sz ps j : Int) := size_in h n hn hjlt
    show F4l2F n _ _ _ _ _ _ _ _ _ = _
    unfold F4l2F
    rw [decide_eq_true (show (k : Int) < ((ints (K ps (i : Int) 0)).length : Int) by omega), inB_nat hklen, hg]
    simp only [cond_true, cond_false, e1, e2, e3, e4, e5, bne_self_eq_false]
    have hs : (pre.map (sz ps)).sum + sz ps j ≤ 1000 := by
      have : ((K ps (i : Int) 0).map (sz ps)).sum = (pre.map (sz ps)).sum + (sz ps j + (r.map (sz ps)).sum) := by rw [hall]; simp
      omega
    rw [wrap64 (x := ((1 + (pre.map (sz ps)).sum : Nat) : Int) + (sz ps j : Int)) (by omega) (by omega), wrap64 (x := (k : Int) + 1) (by omega) (by omega)]
    have e6 : ((1 + (pre.map (sz ps)).sum : Nat) : Int) + (sz ps j : Int) = ((1 + ((pre ++ [j]).map (sz ps)).sum : Nat) : Int) := by simp; omega
    rw [e6]
    refine ih (k + 1) (j + 1) (pre ++ [j]) (by rw [← h3, hall]; simp) (by simp [hk]) (by rw [← h3]; rw [hjr] at hd; simpa using hd) (fun _ _ => trivial) m j (by omega) (fun x hx => ?_)
    have := (mem_K'.1 hx).1
    omega

theorem sz_zero (h : Ok ds ps) (hpos : 0 < ps.length) : sz ps 0 = ps.length := by
  have h1 := cut_eq h (ps.length - 1) 1 rfl (by omega)
  have h2 := sz_eq h hpos
  have h3 := K_zero h hpos
  rw [h3, sum_K (sz ps) (ps.length - 1) 1 (by omega)] at h2
  unfold cut at h1
  have e : sumF (fun j => if parOf ps j < ((1 : Nat) : Int) then sz ps j else 0) (ps.length - 1) 1 = sumF (fun j => if parOf ps j = ((0 : Nat) : Int) then sz ps j else 0) (ps.length - 1) 1 := by
    have key : ∀ (c a : Nat), 1 ≤ a → c + a = ps.length → sumF (fun j => if parOf ps j < ((1 : Nat) : Int) then sz ps j else 0) c a = sumF (fun j => if parOf ps j = ((0 : Nat) : Int) then sz ps j else 0) c a := by
      intro c
      induction c with
      | zero => intro a _ _; rfl
      | succ c ih =>
        intro a ha hc
        simp only [sumF]
        rw [ih (a + 1) (by omega) (by omega)]
        congr 1
        rcases parOf_range h (show a < ps.length by omega) with ⟨h4, _⟩ | ⟨q, h4, _⟩
        · omega
        · by_cases hq : q = 0
          · rw [if_pos (by omega), if_pos (by omega)]
          · rw [if_neg (by omega), if_neg (by omega)]
    exact key _ 1 (Nat.le_refl _) (by omega)
  rw [e] at h1
  omega

include hn haw in
theorem tree_loop (h : Ok ds ps) (hpl : Plain ds) (t0 : List Int) (hlen : ps.length = t0.length + 1) :
    ∀ (d i : Nat), ps.length - i = d → i ≤ ps.length → ∀ m, d + 1 ≤ m → F4l1 n m t0 (i : Int) (build ds ps) = some true := by
  intro d
  have hle := h.le
  induction d with
  | zero =>
    intro i hd hi m hm
    obtain ⟨m, rfl⟩ : ∃ q, m = q + 1 := ⟨m - 1, by omega⟩
    show F4l1F n _ _ _ _ = _
    unfold F4l1F
    have e1 : F23 n (some (build ds ps, ())) (0 : Int) = some (ps.length : Int) := by
      have := size_in h n hn (show 0 < ps.length by omega)
      rw [sz_zero h (by omega)] at this
      exact this
    have e2 : F13 n (some (build ds ps, ())) = some (ps.length : Int) := len_eq n
    rw [decide_eq_false (by omega), wrap64 (by omega) (by omega)]
    have e3 : ((ps.length : Int) == (t0.length : Int) + 1) = true := by simp; omega
    simp only [cond_false, cond_true, e1, e2, e3, haw]
  | succ d ih =>
    intro i hd hi m hm
    obtain ⟨m, rfl⟩ : ∃ q, m = q + 1 := ⟨m - 1, by omega⟩
    have hilt : i < ps.length := by omega
    show F4l1F n _ _ _ _ = _
    unfold F4l1F
    have e1 : F19 n (some (build ds ps, ())) (i : Int) = some ((node ds ps i).1, true) := (node_in n hilt).1
    have e2 : F20 n (some (build ds ps, ())) (i : Int) = some (ints (K ps (i : Int) 0)) := kids_in n h hn hilt
    have ed := dtOf_plain h hpl hilt
    have f1 : (node ds ps i).1.2.2.2.1 = [] := by show (dtOf ds i).2.2.2.1 = _; rw [ed]
    have f2 : (node ds ps i).1.2.2.1 = 0 := by show (dtOf ds i).2.2.1 = _; rw [ed]
    have f3 : (node ds ps i).1.2.1 = false := by show (dtOf ds i).2.1 = _; rw [ed]
    have f4 : (node ds ps i).1.2.2.2.2.1 = [] := by show (dtOf ds i).2.2.2.2 = _; rw [ed]
    rw [decide_eq_true (by omega)]
    simp only [cond_true, e1, e2, Bool.not_true, cond_false, f1, f2, f3, f4, beq_self_eq_true, bne_self_eq_false]
    have hkl := K_len (ps := ps) (q := (i : Int)) (a := 0) rfl
    have := kids_loop hn h hpl t0 hilt (F4l1 n m) (by rw [wrap64 (by omega) (by omega)]; exact ih (i + 1) (by omega) (by omega) m (by omega)) _ 0 0 [] (by simp) rfl rfl (fun _ _ => trivial) n i (by omega) (fun j hj => (kid_gt h hj).1)
    exact this

theorem place_range (v c : Int) (hc : 0 < c) (hc2 : c ≤ 1000000) : ∃ r, F10 n v c = some r ∧ 0 ≤ r ∧ r < c := by
  unfold F10
  have : (!(c == 0)) = true := by simp; omega
  rw [this]
  simp only [cond_true]
  have h1 := Int.tmod_lt_of_pos v hc
  have h2 : -c < Int.tmod v c := by
    have := Int.neg_tmod v c
    have h3 := Int.tmod_lt_of_pos (-v) hc
    rw [Int.neg_tmod] at h3
    omega
  cases hd : decide (Int.tmod v c < 0) with
  | true =>
    have := of_decide_eq_true hd
    exact ⟨_, rfl, by rw [wrap64 (by omega) (by omega)]; omega, by rw [wrap64 (by omega) (by omega)]; omega⟩
  | false =>
    have := of_decide_eq_false hd
    exact ⟨_, rfl, by omega, h1⟩

include hn haw in
theorem adds_loop (t0 : List Int) (ht : t0.length ≤ 80) : ∀ (d i : Nat) (ds : List Dt) (ps : List Int), Ok ds ps → Plain ds → ps.length = i + 1 → t0.length - i = d → i ≤ t0.length → ∀ m, d + 1 ≤ m →
    F4l0 n m t0 (i : Int) (build ds ps) = some true := by
  intro d
  induction d with
  | zero =>
    intro i ds ps h hpl hlen hd hi m hm
    obtain ⟨m, rfl⟩ : ∃ q, m = q + 1 := ⟨m - 1, by omega⟩
    show F4l0F n _ _ _ _ = _
    unfold F4l0F
    rw [decide_eq_false (by omega)]
    exact tree_loop hn haw h hpl t0 (by omega) ps.length 0 rfl (by omega) n (by omega)
  | succ d ih =>
    intro i ds ps h hpl hlen hd hi m hm
    obtain ⟨m, rfl⟩ : ∃ q, m = q + 1 := ⟨m - 1, by omega⟩
    show F4l0F n _ _ _ _ = _
    unfold F4l0F
    rw [decide_eq_true (by omega), inB_nat (show i < t0.length by omega), wrap64 (x := (i : Int) + 1) (by omega) (by omega)]
    obtain ⟨r, h1, h2, h3⟩ := place_range (n := n) (t0.getD (Int.toNat (i : Int)) (Ty.dflt (.int .i64))) ((i : Int) + 1) (by omega) (by omega)
    have hg : Good ds ps r (5, true, 5, [110, 111], [], 0, 0, ()) := ⟨by simp, .inr ⟨h2, by omega, by rw [dtOf_plain h hpl (by omega)]; exact .inl rfl⟩⟩
    have hadd := (F11_good n h (by omega) hg).1
    have hkind : kindP ds r = 5 := by unfold kindP; rw [if_pos h2, dtOf_plain h hpl (by omega)]
    have hkept : kept (5, true, 5, [110, 111], [], 0, 0, ()) 5 = (5, false, 0, [], []) := rfl
    have hok := ok_good h (by omega) hg
    rw [hkind, hkept] at hadd hok
    simp only [cond_true, h1, hadd]
    have e1 : ((ps.length : Int) != (i : Int) + 1) = false := by rw [hlen]; simp
    simp only [e1, cond_false]
    refine ih (i + 1) _ _ hok (fun j dd hj => ?_) (by simp; omega) (by omega) (by omega) m (by omega)
    by_cases hlt : j < ds.length
    · rw [List.getElem?_append_left hlt] at hj; exact hpl j dd hj
    · rw [List.getElem?_append_right (by omega)] at hj
      have h0 : j - ds.length = 0 := by
        have := (List.getElem?_eq_some_iff.1 hj).1
        simp at this
        omega
      rw [h0] at hj
      simp at hj
      exact hj.symm

include hn haw in
theorem arenaTree_pureN (t0 : List Int) : F4 n t0 = some true := by
  have hg : Good [] [] (-1) (5, false, 0, [], [], 0, 0, ()) := ⟨by simp, .inl ⟨rfl, rfl⟩⟩
  have hadd := (F11_good n ok_nil (by simp) hg).1
  have hok := ok_good ok_nil (by simp) hg
  have hkept : kept (5, false, 0, [], [], 0, 0, ()) (kindP [] (-1)) = (5, false, 0, [], []) := rfl
  rw [hkept] at hadd hok
  have e0 : build [] [] = [] := rfl
  rw [e0] at hadd
  unfold F4 F6
  by_cases h : (t0.length : Int) > 80
  · rw [decide_eq_true h]
    simp only [cond_true, haw]
  · rw [decide_eq_false h]
    have e1 : ((([] : List Int).length : Int) != 0) = false := rfl
    simp only [cond_false, hadd, e1]
    refine adds_loop hn haw t0 (by omega) t0.length 0 _ _ hok (fun j dd hj => ?_) rfl rfl (by omega) n (by omega)
    cases j with
    | zero => simp at hj; exact hj.symm
    | succ j => simp at hj
end

theorem arenaTree_pure (t0 : List Int) : F4 1000 t0 = some true := arenaTree_pureN (Nat.le_refl _) awake9 t0
end Go.Proofs.Ytoonknmckeggaaa.Ab.Ar
