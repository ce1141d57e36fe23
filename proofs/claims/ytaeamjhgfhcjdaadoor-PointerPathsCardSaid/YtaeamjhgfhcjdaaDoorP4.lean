/- Values by numbers, as the laws draw them. -/
import Derived.Test.YtaeamjhgfhcjdaaDoorP3
import Derived.Test.YtaeamjhgfhcjdaaDoorGAB
import Derived.KernelRfl
namespace Go.Proofs.YtaeamjhgfhcjdaaDoor.Ab.Pt
open Go Go.RowKit Go.Proofs.YtaeamjhgfhcjdaaDoor.Ab
set_option maxRecDepth 100000
set_option linter.unusedVariables false
set_option linter.unusedSimpArgs false

theorem V.eta (v : V) : V.mk v.kind v.b v.n v.s v.names v.kids = v := by cases v; rfl

/-- A name: of UTF-8, not too long. -/
def okN (x : List UInt8) : Bool := okU (bytesOf x) 0 0 && decide (x.length ≤ 100)

/-- A value, so deep: lists and objects alone have kids, four at most; an object's names are no two alike, of UTF-8, as many as its kids. -/
def GV : Nat → V → Prop
  | 0, _ => False
  | d + 1, v => (1 ≤ v.kind ∧ v.kind ≤ 6) ∧ (v.kids ≠ [] → v.kind = 5 ∨ v.kind = 6) ∧ v.kids.length ≤ 4 ∧ v.names.length ≤ 4 ∧ (v.kind = 6 → v.names.length = v.kids.length ∧ v.names.Nodup ∧ ∀ x ∈ v.names, okN x = true) ∧
      (v.kind = 5 → v.names = []) ∧ ∀ k ∈ v.kids, GV d k

theorem dv {k c : Int} (hk : 0 ≤ k) (hk2 : k < 1099511627776) (hc : 0 < c) : IntKind.wrap .i64 (Int.tdiv k c) = k / c := by
  rw [Int.tdiv_eq_ediv_of_nonneg hk]
  have h1 : 0 ≤ k / c := Int.ediv_nonneg hk (by omega)
  have h2 : k / c ≤ k := Int.ediv_le_self c hk
  exact wrap64 (by omega) (by omega)

theorem md {k c : Int} (hk : 0 ≤ k) : Int.tmod k c = k % c := Int.tmod_eq_emod_of_nonneg hk

theorem place {n : Nat} {v c : Int} (hc : 0 < c) (hc2 : c ≤ 1099511627776) : ∃ k, F31 n v c = some k ∧ 0 ≤ k ∧ k < c := by
  unfold F31
  have e : (c == 0) = false := by rw [beq_eq_false_iff_ne]; omega
  simp only [e, Bool.not_false, cond_true]
  have h1 : Int.tmod v c < c := Int.tmod_lt_of_pos v hc
  have h2 : -c < Int.tmod v c := by
    have := Int.tmod_lt_of_pos (-v) hc
    rw [Int.neg_tmod] at this
    omega
  by_cases h : Int.tmod v c < 0
  · rw [decide_eq_true h]
    exact ⟨_, rfl, by rw [wrap64 (by omega) (by omega)]; omega, by rw [wrap64 (by omega) (by omega)]; omega⟩
  · rw [decide_eq_false h]
    exact ⟨_, rfl, by omega, h1⟩

def nmL (last : List UInt8) : List (List UInt8) := [[97], [98], [99], [100], last]
def isLast (l : List UInt8) : Prop := l = [195, 169] ∨ l = [101, 204, 129]
theorem nm_inj {last : List UInt8} (h : isLast last) : ∀ x, x < 5 → ∀ y, y < 5 → (nmL last).getD x [] = (nmL last).getD y [] → x = y := by
  rcases h with rfl | rfl <;> decide

def nmAt (q : Int) (last : List UInt8) (i : Nat) : List (List UInt8) := (List.range i).map fun (j : Nat) => (nmL last).getD ((q + (j : Int)) % 5).toNat []

theorem nmAt_nodup {q : Int} {last : List UInt8} (h : isLast last) {i : Nat} (hi : i ≤ 4) : (nmAt q last i).Nodup := by
  unfold nmAt
  refine List.pairwise_map.2 ?_
  refine List.Pairwise.imp_of_mem ?_ List.nodup_range
  intro a b ha hb hne he
  rw [List.mem_range] at ha hb
  have := nm_inj h _ (by omega) _ (by omega) he
  omega

theorem nm_ok {last : List UInt8} (h : isLast last) : ∀ x, x < 5 → okN ((nmL last).getD x []) = true := by
  rcases h with rfl | rfl <;> decide

theorem nmAt_ok {q : Int} {last : List UInt8} (h : isLast last) {i : Nat} : ∀ x ∈ nmAt q last i, okN x = true := by
  intro x hx
  obtain ⟨j, _, rfl⟩ := List.mem_map.1 hx
  exact nm_ok h _ (by omega)

def cost : Nat → Int
  | 0 => 1
  | d + 1 => 1 + 4 * cost d

theorem cost_pos : ∀ d, 1 ≤ cost d
  | 0 => by simp [cost]
  | d + 1 => by have := cost_pos d; simp only [cost]; omega

theorem small_loop {self : List Int → Int → Int → Option (V × Int)} {n d : Nat} {l : List Int} {t2 k : Int} {last : List UInt8} {kind : Int} {B c : Int} (hcp : 1 ≤ c) (hk0 : 0 ≤ k) (hk1 : k < 1099511627776) (ht : 1 ≤ t2) (ht2 : t2 ≤ 100)
    (hlast : isLast last) (hkind : kind = 6 ∨ kind = 5) (hs : ∀ a, 0 ≤ a → a ≤ B → ∃ v a', self l a (t2 - 1) = some (v, a') ∧ GV d v ∧ a ≤ a' ∧ a' ≤ a + c) {x0 x2 : Int} {x1 : Bool} {x3 : List UInt8} {x4 : List (List UInt8)} {x5 : List V} {cnt : Nat} (hcnt : (cnt : Int) = k / 6 % 5) :
    ∀ (j i m : Nat) (at_ : Int) (ks : List V), i + j = cnt → j < m → 0 ≤ at_ → at_ + (j : Int) * c ≤ B → ks.length = i → (∀ v ∈ ks, GV d v) →
      ∃ v a', F41l2 self n m l at_ t2 k last (i : Int) x0 x1 x2 x3 x4 x5 kind false 0 [] (if kind = 6 then nmAt (k / 30) last i else []) ks = some (v, a') ∧ GV (d + 1) v ∧ at_ ≤ a' ∧ a' ≤ at_ + (j : Int) * c := by
  have hk6 : 0 ≤ k / 6 := Int.ediv_nonneg hk0 (by omega)
  have hk30 : 0 ≤ k / 30 := Int.ediv_nonneg hk0 (by omega)
  have hk30' : k / 30 ≤ k := Int.ediv_le_self _ hk0
  intro j
  induction j with
  | zero =>
    intro i m at_ ks q1 q2 q3 q4 q5 q6
    obtain ⟨m, rfl⟩ : ∃ q, m = q + 1 := ⟨m - 1, by omega⟩
    simp only [F41l2, F41l2F]
    rw [dv hk0 hk1 (by omega), md hk6, decide_eq_false (by omega)]
    refine ⟨_, _, rfl, ?_, by omega, by omega⟩
    refine ⟨?_, fun _ => ?_, ?_, ?_, ?_, ?_, q6⟩
    · simp only; rcases hkind with rfl | rfl <;> simp
    · simp only; rcases hkind with rfl | rfl <;> simp
    · simp only; omega
    · simp only; split <;> simp [nmAt]; omega
    · intro h6
      simp only at h6
      subst h6
      simp only [if_true]
      exact ⟨by simp [nmAt, q5], nmAt_nodup hlast (by omega), fun x hx => nmAt_ok hlast x hx⟩
    · intro h6
      simp only at h6
      subst h6
      simp
  | succ j ih =>
    intro i m at_ ks q1 q2 q3 q4 q5 q6
    obtain ⟨m, rfl⟩ : ∃ q, m = q + 1 := ⟨m - 1, by omega⟩
    have hmul : ((j + 1 : Nat) : Int) * c = (j : Int) * c + c := by rw [Int.natCast_add, Int.add_mul]; simp
    have hjc : 0 ≤ (j : Int) * c := Int.mul_nonneg (by omega) (by omega)
    rw [hmul] at q4 ⊢
    obtain ⟨v, a1, e1, e2, e3, e4⟩ := hs at_ q3 (by omega)
    simp only [F41l2, F41l2F]
    rw [dv hk0 hk1 (by omega), md hk6, decide_eq_true (by omega), wrap64 (x := t2 - 1) (by omega) (by omega), e1]
    have hb1 : (ks.length + 1) * 88 ≤ maxRoom := by simp only [maxRoom]; omega
    have hb2 : ks.length + 1 ≤ maxRoom := by simp only [maxRoom]; omega
    have hi1 : IntKind.wrap .i64 ((i : Int) + 1) = ((i + 1 : Nat) : Int) := by rw [wrap64 (by omega) (by omega)]; omega
    have hcl : ∀ u ∈ ks ++ [v], GV d u := by
      intro u hu
      rcases List.mem_append.1 hu with hu | hu
      · exact q6 u hu
      · rw [List.mem_singleton] at hu; exact hu ▸ e2
    rcases hkind with rfl | rfl
    · have hq : IntKind.wrap .i64 (k / 30 + (i : Int)) = k / 30 + (i : Int) := wrap64 (by omega) (by omega)
      simp only [dv hk0 hk1 (show (0 : Int) < 30 by omega), hq, md (show 0 ≤ k / 30 + (i : Int) by omega), V.eta]
      have hin : inB ((k / 30 + (i : Int)) % 5) 5 = true := by simp [inB]; omega
      have hb3 : ((nmAt (k / 30) last i).length + 1) * 16 ≤ maxRoom := by simp only [maxRoom, nmAt, List.length_map, List.length_range]; omega
      have hb4 : (nmAt (k / 30) last i).length + 1 ≤ maxRoom := by simp only [maxRoom, nmAt, List.length_map, List.length_range]; omega
      have hcl2 : nmAt (k / 30) last i ++ [(nmL last).getD (Int.toNat ((k / 30 + (i : Int)) % 5)) (Ty.dflt .str)] = nmAt (k / 30) last (i + 1) := by
        simp [nmAt, List.range_succ, Ty.dflt]
      obtain ⟨u, a2, f1, f2, f3, f4⟩ := ih (i + 1) m a1 (ks ++ [v]) (by omega) (by omega) (by omega) (by omega) (by simp [q5]) hcl
      refine ⟨u, a2, ?_, f2, by omega, by omega⟩
      rw [← f1]
      simp only [if_true]
      rw [← hcl2, hin, hi1]
      simp only [List.length_cons, List.length_nil, Nat.zero_add, decide_eq_true hb1, decide_eq_true hb2, decide_eq_true hb3, decide_eq_true hb4, Bool.and_true, cond_true, Bool.not_false, beq_self_eq_true, nmL, show ((6 : Int) == 0) = false from rfl, show ((5 : Int) == 0) = false from rfl, show ((30 : Int) == 0) = false from rfl]
      rfl
    · obtain ⟨u, a2, f1, f2, f3, f4⟩ := ih (i + 1) m a1 (ks ++ [v]) (by omega) (by omega) (by omega) (by omega) (by simp [q5]) hcl
      refine ⟨u, a2, ?_, f2, by omega, by omega⟩
      rw [← f1]
      simp only [show ((5 : Int) = 6) = False from by simp, if_false]
      rw [hi1]
      simp only [List.length_cons, List.length_nil, Nat.zero_add, decide_eq_true hb1, decide_eq_true hb2, Bool.and_true, cond_true, cond_false, Bool.not_false, show ((5 : Int) == 6) = false from rfl, show ((6 : Int) == 0) = false from rfl, show ((5 : Int) == 0) = false from rfl, V.eta]
      rfl

theorem leaf_good (d : Nat) {k : Int} {b : Bool} {x : Int} {t : List UInt8} (hk : 1 ≤ k ∧ k ≤ 4) : GV (d + 1) ⟨k, b, x, t, [], []⟩ :=
  ⟨by simp only; omega, fun h => absurd rfl h, by simp, by simp, fun h => by simp only at h; omega, fun h => by simp only at h; omega, by simp⟩

theorem smallj_good {self : List Int → Int → Int → Option (V × Int)} {n d : Nat} {l : List Int} {t1 t2 k : Int} {B : Int} (hn : 20 ≤ n) (hk0 : 0 ≤ k) (hk1 : k < 1099511627776) (ht : t2 = (d : Int)) (ht2 : d ≤ 99)
    (h1 : 0 ≤ t1) (hB : t1 + cost d ≤ B) (hB2 : B ≤ 1000000000) (hs : ∀ e, d = e + 1 → ∀ a, 0 ≤ a → a ≤ B → ∃ v a', self l a (t2 - 1) = some (v, a') ∧ GV (e + 1) v ∧ a ≤ a' ∧ a' ≤ a + cost e) {x0 x2 : Int} {x1 : Bool} {x3 : List UInt8} {x4 : List (List UInt8)} {x5 : List V} :
    ∃ v a', F41j0 self n l t1 t2 k x0 x1 x2 x3 x4 x5 = some (v, a') ∧ GV (d + 1) v ∧ t1 ≤ a' ∧ a' ≤ t1 + cost d := by
  have hcp := cost_pos d
  have hk6 : 0 ≤ k / 6 := Int.ediv_nonneg hk0 (by omega)
  have hk24 : 0 ≤ k / 24 := Int.ediv_nonneg hk0 (by omega)
  have hk150 : 0 ≤ k / 150 := Int.ediv_nonneg hk0 (by omega)
  have hat : IntKind.wrap .i64 (t1 + 1) = t1 + 1 := wrap64 (by omega) (by omega)
  have leaf : ∃ v a', (bif (k / 6 % 4 == 0) then some ((⟨1, false, 0, [], [], []⟩ : V), t1 + 1) else bif (k / 6 % 4 == 1) then some ((⟨3, false, k / 24 % 3, [], [], []⟩ : V), t1 + 1) else
      bif (k / 6 % 4 == 2) then some ((⟨2, (k / 24 % 2 == 0), 0, [], [], []⟩ : V), t1 + 1) else some ((⟨4, false, 0, ([[], [97], [195, 169]] : List (List UInt8)).getD (Int.toNat (k / 24 % 3)) [], [], []⟩ : V), t1 + 1)) = some (v, a') ∧ GV (d + 1) v ∧ t1 ≤ a' ∧ a' ≤ t1 + cost d := by
    cases (k / 6 % 4 == 0)
    · cases (k / 6 % 4 == 1)
      · cases (k / 6 % 4 == 2)
        · exact ⟨_, _, rfl, leaf_good d (by decide), by omega, by omega⟩
        · exact ⟨_, _, rfl, leaf_good d (by decide), by omega, by omega⟩
      · exact ⟨_, _, rfl, leaf_good d (by decide), by omega, by omega⟩
    · exact ⟨_, _, rfl, leaf_good d (by decide), by omega, by omega⟩
  have hin : inB (k / 24 % 3) 3 = true := by simp [inB]; omega
  have c6 : ((6 : Int) == 0) = false := rfl
  have c4 : ((4 : Int) == 0) = false := rfl
  have c24 : ((24 : Int) == 0) = false := rfl
  have c3 : ((3 : Int) == 0) = false := rfl
  have c2 : ((2 : Int) == 0) = false := rfl
  have c150 : ((150 : Int) == 0) = false := rfl
  unfold F41j0
  simp only [dv hk0 hk1 (show (0 : Int) < 6 by omega), dv hk0 hk1 (show (0 : Int) < 24 by omega), md hk6, md hk24, md hk0, hat, hin, c6, c4, c24, c3, c2, Bool.not_false, cond_true, Bool.and_true]
  by_cases hd : t2 = 0
  · rw [show (t2 == 0) = true by rw [hd]; rfl]
    simp only [cond_true]
    exact leaf
  rw [show (t2 == 0) = false by rw [beq_eq_false_iff_ne]; exact hd]
  simp only [cond_false]
  by_cases hlt : k % 6 < 2
  · rw [decide_eq_true hlt]
    simp only [cond_true]
    exact leaf
  rw [decide_eq_false hlt]
  simp only [cond_false]
  by_cases hgt : t1 + 1 > (l.length : Int)
  · rw [decide_eq_true hgt]
    simp only [cond_true]
    exact leaf
  rw [decide_eq_false hgt]
  simp only [cond_false]
  obtain ⟨e, rfl⟩ : ∃ e, d = e + 1 := ⟨d - 1, by omega⟩
  have hin2 : inB (k / 150 % 2) 2 = true := by simp [inB]; omega
  have hlast : isLast ((([([195, 169] : List UInt8), ([101, 204, 129] : List UInt8)] : List (List UInt8))).getD (Int.toNat (k / 150 % 2)) (Ty.dflt .str)) := by
    have : k / 150 % 2 = 0 ∨ k / 150 % 2 = 1 := by omega
    rcases this with h | h <;> rw [h]
    · exact .inl rfl
    · exact .inr rfl
  obtain ⟨cnt, hcnt⟩ : ∃ cnt : Nat, (cnt : Int) = k / 6 % 5 := ⟨(k / 6 % 5).toNat, by omega⟩
  have hcost : (cnt : Int) * cost e ≤ 4 * cost e := Int.mul_le_mul_of_nonneg_right (by omega) (by have := cost_pos e; omega)
  have hce : cost (e + 1) = 1 + 4 * cost e := rfl
  have ht1 : 1 ≤ t2 := by omega
  have ht100 : t2 ≤ 100 := by omega
  have node : ∀ kind : Int, kind = 6 ∨ kind = 5 → ∃ v a', F41j1 self n l (t1 + 1) t2 k x0 x1 x2 x3 x4 x5 kind false 0 [] [] [] = some (v, a') ∧ GV (e + 1 + 1) v ∧ t1 ≤ a' ∧ a' ≤ t1 + cost (e + 1) := by
    intro kind hkind
    unfold F41j1
    simp only [dv hk0 hk1 (show (0 : Int) < 150 by omega), md hk150, hin2, c150, c2, Bool.not_false, cond_true, Bool.and_true]
    obtain ⟨v, a', f1, f2, f3, f4⟩ := small_loop (d := e + 1) (B := B) (cost_pos e) (x0 := x0) (x1 := x1) (x2 := x2) (x3 := x3) (x4 := x4) (x5 := x5) hk0 hk1 ht1 ht100 hlast hkind (hs e rfl) hcnt cnt 0 n (t1 + 1) [] (by omega) (by omega) (by omega) (by omega) rfl (by simp)
    refine ⟨v, a', ?_, f2, by omega, by omega⟩
    rw [← f1]
    congr 1
    split <;> rfl
  cases (k % 6 == 5)
  · exact node 6 (.inl rfl)
  · exact node 5 (.inr rfl)

theorem small_good : ∀ (d : Nat) (l : List Int) (a : Int) (n : Nat), 0 ≤ a → a + 2 * cost d ≤ 100000000 → d ≤ 99 → d + 21 ≤ n → ∃ v a', F41 n l a (d : Int) = some (v, a') ∧ GV (d + 1) v ∧ a ≤ a' ∧ a' ≤ a + cost d := by
  intro d
  induction d with
  | zero =>
    intro l a n h1 h2 h3 h5
    obtain ⟨n, rfl⟩ : ∃ q, n = q + 1 := ⟨n - 1, by omega⟩
    simp only [F41, F41B]
    have key : ∀ k, 0 ≤ k → k < 1099511627776 → ∃ v a', F41j0 (F41 n) n l a ((0 : Nat) : Int) k 0 false 0 [] [] [] = some (v, a') ∧ GV (0 + 1) v ∧ a ≤ a' ∧ a' ≤ a + cost 0 := fun k hk0 hk1 =>
      smallj_good (d := 0) (B := 100000000) (by omega) hk0 hk1 rfl (by omega) h1 (by simp only [cost] at h2 ⊢; omega) (by omega) (fun e he => by omega)
    by_cases hlt : a < (l.length : Int)
    · rw [decide_eq_true hlt, show inB a l.length = true by simp [inB]; omega]
      obtain ⟨k, hk, k0, k1⟩ := place (n := n) (v := l.getD (Int.toNat a) (Ty.dflt (.int .i64))) (c := 1099511627776) (by omega) (by omega)
      simp only [cond_true, hk]
      exact key k k0 k1
    · rw [decide_eq_false hlt]
      exact key 0 (by omega) (by omega)
  | succ d ih =>
    intro l a n h1 h2 h3 h5
    obtain ⟨n, rfl⟩ : ∃ q, n = q + 1 := ⟨n - 1, by omega⟩
    simp only [F41, F41B]
    have hc : cost (d + 1) = 1 + 4 * cost d := rfl
    have hcp := cost_pos d
    have key : ∀ k, 0 ≤ k → k < 1099511627776 → ∃ v a', F41j0 (F41 n) n l a ((d + 1 : Nat) : Int) k 0 false 0 [] [] [] = some (v, a') ∧ GV (d + 1 + 1) v ∧ a ≤ a' ∧ a' ≤ a + cost (d + 1) := fun k hk0 hk1 =>
      smallj_good (d := d + 1) (B := a + cost (d + 1)) (by omega) hk0 hk1 rfl (by omega) h1 (by omega) (by omega) (fun e he b hb0 hb1 => by
        obtain rfl : d = e := by omega
        have := ih l b n hb0 (by omega) (by omega) (by omega)
        rw [show (((d + 1 : Nat) : Int) - 1) = (d : Int) by omega]
        exact this)
    by_cases hlt : a < (l.length : Int)
    · rw [decide_eq_true hlt, show inB a l.length = true by simp [inB]; omega]
      obtain ⟨k, hk, k0, k1⟩ := place (n := n) (v := l.getD (Int.toNat a) (Ty.dflt (.int .i64))) (c := 1099511627776) (by omega) (by omega)
      simp only [cond_true, hk]
      exact key k k0 k1
    · rw [decide_eq_false hlt]
      exact key 0 (by omega) (by omega)


theorem Small_good (n : Nat) (hn : 100 ≤ n) (zs : List Int) : ∃ v, F24 n zs = some v ∧ GV 5 v := by
  obtain ⟨v, a, h1, h2, _⟩ := small_good 4 zs 0 n (by omega) (by simp [cost]) (by omega) (by omega)
  refine ⟨v, ?_, h2⟩
  have h1' : F41 n zs 0 4 = some (v, a) := h1
  unfold F24
  rw [h1']
  simp only [V.eta]

end Go.Proofs.YtaeamjhgfhcjdaaDoor.Ab.Pt

/- Arenas as lists of data and parents: what is put into them and told of them, by the program's functions and the document's. -/
namespace Go.Proofs.YtaeamjhgfhcjdaaDoor.Ab.Ar
open Go Go.RowKit
set_option maxRecDepth 100000
set_option linter.unusedVariables false
set_option linter.unusedSimpArgs false

/-! ### Kids by parents -/

def KA (i : Int) : List Int → Nat → List Nat
  | [], _ => []
  | q :: r, a => if q = i then a :: KA i r (a + 1) else KA i r (a + 1)

def K (ps : List Int) (i : Int) (a : Nat) : List Nat := KA i (ps.drop a) a

theorem KA_append (i : Int) (s : List Int) : ∀ (r : List Int) (a : Nat), KA i (r ++ s) a = KA i r a ++ KA i s (a + r.length)
  | [], a => by simp [KA]
  | q :: r, a => by
    simp only [List.cons_append, KA, KA_append i s r (a + 1), List.length_cons]
    have e : a + 1 + r.length = a + (r.length + 1) := by omega
    rw [e]
    split <;> rfl

theorem K_append {ps : List Int} {p i : Int} {a : Nat} (h : a ≤ ps.length) : K (ps ++ [p]) i a = K ps i a ++ (if p = i then [ps.length] else []) := by
  unfold K
  rw [List.drop_append_of_le_length h, KA_append]
  congr 1
  simp only [KA, List.length_drop]
  rw [show a + (ps.length - a) = ps.length by omega]

theorem K_ge {ps : List Int} {i : Int} {a : Nat} (h : ps.length ≤ a) : K ps i a = [] := by
  unfold K
  rw [List.drop_eq_nil_of_le h]
  rfl

theorem K_step {ps : List Int} {i : Int} {a : Nat} (h : a < ps.length) : K ps i a = if ps[a] = i then a :: K ps i (a + 1) else K ps i (a + 1) := by
  unfold K
  rw [List.drop_eq_getElem_cons h]
  rfl

theorem mem_K {ps : List Int} {i : Int} {j : Nat} : ∀ {m a : Nat}, ps.length - a = m → (j ∈ K ps i a ↔ a ≤ j ∧ ps[j]? = some i)
  | 0, a, h => by
    rw [K_ge (by omega)]
    constructor
    · intro h; cases h
    · rintro ⟨h1, h2⟩
      have := (List.getElem?_eq_some_iff.1 h2).1
      omega
  | m + 1, a, h => by
    have ha : a < ps.length := by omega
    rw [K_step ha]
    have ih := mem_K (ps := ps) (i := i) (j := j) (m := m) (a := a + 1) (by omega)
    split
    · rename_i e
      rw [List.mem_cons, ih]
      constructor
      · rintro (rfl | ⟨h1, h2⟩)
        · exact ⟨Nat.le_refl _, by rw [List.getElem?_eq_getElem ha, e]⟩
        · exact ⟨by omega, h2⟩
      · rintro ⟨h1, h2⟩
        by_cases hj : j = a
        · exact .inl hj
        · exact .inr ⟨by omega, h2⟩
    · rename_i e
      rw [ih]
      constructor
      · rintro ⟨h1, h2⟩; exact ⟨by omega, h2⟩
      · rintro ⟨h1, h2⟩
        refine ⟨?_, h2⟩
        by_cases hj : j = a
        · subst hj
          rw [List.getElem?_eq_getElem ha] at h2
          exact absurd (Option.some.inj h2) e
        · omega

theorem mem_K' {ps : List Int} {i : Int} {a j : Nat} : j ∈ K ps i a ↔ a ≤ j ∧ ps[j]? = some i := mem_K rfl

def hd : List Nat → Int
  | [] => -1
  | j :: _ => (j : Int)
def lastI (l : List Nat) : Int :=
  match l.getLast? with
  | none => -1
  | some j => (j : Int)

/-- The last of the kids. -/
theorem last_K {ps : List Int} {i : Int} : ∀ {m a : Nat}, ps.length - a = m → ∀ {l : Nat}, (K ps i a).getLast? = some l → a ≤ l ∧ ps[l]? = some i ∧ K ps i (l + 1) = []
  | 0, a, h, l, hl => by rw [K_ge (by omega)] at hl; cases hl
  | m + 1, a, h, l, hl => by
    have ha : a < ps.length := by omega
    rw [K_step ha] at hl
    split at hl
    · rename_i e
      cases hk : K ps i (a + 1) with
      | nil =>
        rw [hk] at hl
        have : a = l := by simpa using hl
        subst this
        exact ⟨Nat.le_refl _, by rw [List.getElem?_eq_getElem ha, e], hk⟩
      | cons x r =>
        rw [hk] at hl
        have hl' : (K ps i (a + 1)).getLast? = some l := by rw [hk]; simpa [List.getLast?_cons_cons] using hl
        obtain ⟨h1, h2⟩ := last_K (m := m) (by omega) hl'
        exact ⟨by omega, h2⟩
    · obtain ⟨h1, h2⟩ := last_K (m := m) (by omega) hl
      exact ⟨by omega, h2⟩

/-! ### Arenas -/

abbrev Dt := Int × Bool × Int × List UInt8 × List UInt8
abbrev NI := Int × Bool × Int × List UInt8 × List UInt8 × Int × Int × Unit

def dtOf (ds : List Dt) (i : Nat) : Dt := ds.getD i (0, false, 0, [], [])
def parOf (ps : List Int) (i : Nat) : Int := ps.getD i (-1)

def mk35 (d : Dt) (f x : Int) : NI := (d.1, d.2.1, d.2.2.1, d.2.2.2.1, d.2.2.2.2, f, x, ())

def node (ds : List Dt) (ps : List Int) (i : Nat) : NodeI :=
  (mk35 (dtOf ds i) (hd (K ps (i : Int) 0)) (hd (K ps (parOf ps i) (i + 1))), parOf ps i, lastI (K ps (i : Int) 0), ())

def build (ds : List Dt) (ps : List Int) : List NodeI := (List.range ps.length).map (node ds ps)

@[simp] theorem build_length (ds : List Dt) (ps : List Int) : (build ds ps).length = ps.length := by simp [build]

theorem build_getD {ds : List Dt} {ps : List Int} {i : Nat} (h : i < ps.length) (d : NodeI) : (build ds ps).getD i d = node ds ps i := by
  simp [build, List.getD, h]

/-- An arena in order. -/
structure Ok (ds : List Dt) (ps : List Int) : Prop where
  len : ds.length = ps.length
  le : ps.length ≤ 400
  par : ∀ (i : Nat) (q : Int), ps[i]? = some q → (i = 0 ∧ q = -1) ∨ (0 ≤ q ∧ q < (i : Int))
  kind : ∀ (i : Nat) (d : Dt), ds[i]? = some d → 1 ≤ d.1 ∧ d.1 ≤ 6

theorem range_set {α : Type} (f : Nat → α) (n i : Nat) (x : α) : ((List.range n).map f).set i x = (List.range n).map fun j => if j = i then x else f j := by
  apply List.ext_getElem?
  intro j
  simp only [List.getElem?_set, List.getElem?_map, List.length_map, List.length_range]
  by_cases hj : j < n
  · rw [List.getElem?_range hj]
    by_cases h : i = j
    · subst h; simp [hj]
    · simp [h, Ne.symm h]
  · have : (List.range n)[j]? = none := by simp; omega
    rw [this]
    by_cases h : i = j
    · subst h; simp [hj]
    · simp [h]

theorem range_snoc {α : Type} (f g : Nat → α) (n : Nat) (y : α) (h1 : ∀ j, j < n → f j = g j) (h2 : y = g n) : (List.range n).map f ++ [y] = (List.range (n + 1)).map g := by
  rw [List.range_succ, List.map_append, h2]
  congr 1
  exact List.map_congr_left fun j hj => h1 j (List.mem_range.1 hj)

theorem hd_append (l m : List Nat) : hd (l ++ m) = if l = [] then hd m else hd l := by
  cases l <;> simp [hd]
theorem lastI_append_one (l : List Nat) (k : Nat) : lastI (l ++ [k]) = k := by simp [lastI]
theorem lastI_nil : lastI [] = -1 := rfl
theorem hd_nil : hd [] = -1 := rfl

theorem parOf_lt {ps : List Int} {i : Nat} (h : i < ps.length) : ps[i]? = some (parOf ps i) := by
  unfold parOf; rw [List.getD_eq_getElem?_getD, List.getElem?_eq_getElem h]; rfl

/-- The arena with one node more. -/
theorem node_snoc {ds : List Dt} {ps : List Int} {d : Dt} {p : Int} (hl : ds.length = ps.length) {j : Nat} (hj : j < ps.length) :
    node (ds ++ [d]) (ps ++ [p]) j = (mk35 (dtOf ds j) (if K ps (j : Int) 0 = [] then (if p = (j : Int) then (ps.length : Int) else -1) else hd (K ps (j : Int) 0))
      (if K ps (parOf ps j) (j + 1) = [] then (if p = parOf ps j then (ps.length : Int) else -1) else hd (K ps (parOf ps j) (j + 1))),
      parOf ps j, if p = (j : Int) then (ps.length : Int) else lastI (K ps (j : Int) 0), ()) := by
  have e1 : dtOf (ds ++ [d]) j = dtOf ds j := by simp [dtOf, List.getD, List.getElem?_append_left (show j < ds.length by omega)]
  have e2 : parOf (ps ++ [p]) j = parOf ps j := by simp [parOf, List.getD, List.getElem?_append_left hj]
  unfold node
  rw [e1, e2, K_append (Nat.zero_le _), K_append (by omega), hd_append, hd_append]
  have e3 : ∀ q : Int, hd (if p = q then [ps.length] else []) = if p = q then (ps.length : Int) else -1 := fun q => by split <;> rfl
  rw [e3, e3]
  congr 3
  split
  · rw [lastI_append_one]
  · rw [List.append_nil]

theorem node_last {ds : List Dt} {ps : List Int} {d : Dt} {p : Int} (h : Ok ds ps) (hp : p < (ps.length : Int)) : node (ds ++ [d]) (ps ++ [p]) ps.length = (mk35 d (-1) (-1), p, -1, ()) := by
  have e1 : dtOf (ds ++ [d]) ps.length = d := by rw [← h.len]; simp [dtOf, List.getD]
  have e2 : parOf (ps ++ [p]) ps.length = p := by simp [parOf, List.getD]
  have e3 : K (ps ++ [p]) (ps.length : Int) 0 = [] := by
    rw [K_append (Nat.zero_le _), if_neg (by omega), List.append_nil]
    rw [List.eq_nil_iff_forall_not_mem]
    intro j hj
    obtain ⟨_, h1⟩ := mem_K'.1 hj
    have := (List.getElem?_eq_some_iff.1 h1).1
    rcases h.par _ _ h1 with ⟨_, h2⟩ | ⟨_, h2⟩ <;> omega
  unfold node
  rw [e1, e2, e3, K_ge (by simp)]
  rfl



/-- What is kept of a node, under a node of this kind. -/
def kept (x : NI) (k : Int) : Dt :=
  (x.1, if x.1 = 2 then x.2.1 else false, if x.1 = 3 then x.2.2.1 else 0, if x.1 = 4 then x.2.2.2.1 else [], if k = 6 then x.2.2.2.2.1 else [])

theorem F26_eq (n : Nat) (x : NI) (k : Int) : F76 n x k = some (mk35 (kept x k) (-1) (-1)) := by
  unfold F76 kept mk35
  by_cases h2 : x.1 = 2
  · by_cases h6 : k = 6 <;> simp [cond_eq_ite, h2, h6]
  · by_cases h3 : x.1 = 3
    · by_cases h6 : k = 6 <;> simp [cond_eq_ite, h2, h3, h6]
    · by_cases h4 : x.1 = 4 <;> by_cases h6 : k = 6 <;> simp [cond_eq_ite, h2, h3, h4, h6]

theorem room (m : Nat) (h : m ≤ 1000) : (decide (m * 88 ≤ maxRoom) && decide (m ≤ maxRoom)) = true := by
  rw [Bool.and_eq_true, decide_eq_true_eq, decide_eq_true_eq]
  unfold maxRoom
  omega

theorem getD_range {α : Type} (f : Nat → α) {n i : Nat} (h : i < n) (d : α) : ((List.range n).map f).getD i d = f i := by
  simp [List.getD, h]

theorem lastI_lt {ps : List Int} {i : Int} {l : Nat} (h : (K ps i 0).getLast? = some l) : lastI (K ps i 0) = (l : Int) := by simp [lastI, h]

theorem hd_if (l : List Nat) : (if l = [] then (-1 : Int) else hd l) = hd l := by cases l <;> rfl

theorem F11_add {ds : List Dt} {ps : List Int} (n : Nat) (h : Ok ds ps) (hl : ps.length < 400) {p : Nat} (hp : p < ps.length) {x : NI} (hk : 1 ≤ x.1 ∧ x.1 ≤ 6) (ho : (dtOf ds p).1 = 5 ∨ (dtOf ds p).1 = 6) :
    F60 n (build ds ps, ()) (p : Int) x = some ((build (ds ++ [kept x (dtOf ds p).1]) (ps ++ [(p : Int)]), ()), (ps.length : Int)) := by
  have e1 : decide ((p : Int) < 0) = false := decide_eq_false (by omega)
  have e2 : decide ((p : Int) ≥ ((build ds ps).length : Int)) = false := by simp; omega
  have e3 : inB (p : Int) (build ds ps).length = true := by simp [inB]; omega
  have e4 : decide (x.1 < 1) = false := by simp; omega
  have e5 : decide (x.1 > 6) = false := by simp; omega
  have e6 : F75 n (node ds ps p).1.1 = some true := by
    show F75 n (dtOf ds p).1 = some true
    unfold F75
    rcases ho with ho | ho <;> simp [ho]
  have gp : ∀ d, (build ds ps).getD (Int.toNat (p : Int)) d = node ds ps p := fun d => by rw [Int.toNat_natCast]; exact build_getD hp d
  have final : ∀ l : List NodeI, l = (List.range ps.length).map (node (ds ++ [kept x (dtOf ds p).1]) (ps ++ [(p : Int)])) →
      l ++ [((mk35 (kept x (dtOf ds p).1) (-1) (-1), ((p : Int), ((-1), ()))) : NodeI)] = build (ds ++ [kept x (dtOf ds p).1]) (ps ++ [(p : Int)]) := by
    rintro l rfl
    rw [build, List.length_append, List.length_singleton]
    exact range_snoc _ _ _ _ (fun _ _ => rfl) (node_last h (by omega)).symm
  simp only [F60, e1, e2, e3, e4, e5, cond_false, cond_true, gp, e6, Bool.not_true]
  cases hlast : (K ps (p : Int) 0).getLast? with
  | none =>
    have hK : K ps (p : Int) 0 = [] := by simpa using hlast
    have e7 : ((node ds ps p).2.2.1 == (-1 : Int)) = true := by simp [node, hK, lastI]
    have e8 : (node ds ps p).1.1 = (dtOf ds p).1 := rfl
    simp only [e7, cond_true, F26_eq, List.length_set, List.length_append, List.length_singleton, build_length, room _ (show ps.length + 1 ≤ 1000 by omega), e8]
    refine congrArg (fun l => some ((l, ()), (ps.length : Int))) (final _ ?_)
    simp only [build, Int.toNat_natCast, range_set, getD_range _ hp, if_pos rfl, if_true]
    refine List.map_congr_left fun j hj => ?_
    have hj := List.mem_range.1 hj
    rw [node_snoc h.len hj]
    have hno : parOf ps j ≠ (p : Int) := fun e => by
      have : j ∈ K ps (p : Int) 0 := mem_K'.2 ⟨Nat.zero_le _, by rw [parOf_lt hj, e]⟩
      rw [hK] at this; cases this
    by_cases hjp : j = p
    · subst hjp
      simp [hK, Ne.symm hno, node, mk35, hd, lastI]
      intro h0; simp [h0]
    · have hne : ¬ ((p : Int) = (j : Int)) := by omega
      simp only [if_neg hjp, if_neg hne, if_neg (Ne.symm hno), node, mk35, hd_if]
  | some l =>
    obtain ⟨_, hl1, hl2⟩ := last_K rfl hlast
    have hlt : l < ps.length := (List.getElem?_eq_some_iff.1 hl1).1
    have hpl : p ≠ l := by
      rcases h.par _ _ hl1 with ⟨_, h2⟩ | ⟨_, h2⟩ <;> omega
    have hKp : K ps (p : Int) 0 ≠ [] := by intro e; rw [e] at hlast; cases hlast
    have hparl : parOf ps l = (p : Int) := by
      have := parOf_lt hlt
      rw [hl1] at this
      exact (Option.some.inj this).symm
    have e7 : ((l : Int) == (-1 : Int)) = false := by simp
    have e9 : (node ds ps p).2.2.1 = (l : Int) := by simp only [node, lastI, hlast]
    have e8 : (node ds ps p).1.1 = (dtOf ds p).1 := rfl
    have e10 : inB (l : Int) ps.length = true := by simp [inB]; omega
    have gl : ∀ d, (build ds ps).getD (Int.toNat (l : Int)) d = node ds ps l := fun d => by rw [Int.toNat_natCast]; exact build_getD hlt d
    simp only [e7, e9, e10, gl, cond_true, cond_false, F26_eq, List.length_set, List.length_append, List.length_singleton, build_length, room _ (show ps.length + 1 ≤ 1000 by omega), e8]
    refine congrArg (fun l => some ((l, ()), (ps.length : Int))) (final _ ?_)
    simp only [build, Int.toNat_natCast, range_set, getD_range _ hp, if_neg hpl]
    refine List.map_congr_left fun j hj => ?_
    have hj := List.mem_range.1 hj
    rw [node_snoc h.len hj]
    have huniq : K ps (parOf ps j) (j + 1) = [] → (p : Int) = parOf ps j → j = l := by
      intro h1 h2
      rcases Nat.lt_trichotomy j l with h3 | h3 | h3
      · have : l ∈ K ps (parOf ps j) (j + 1) := mem_K'.2 ⟨h3, by rw [← h2]; exact hl1⟩
        rw [h1] at this; cases this
      · exact h3
      · have : j ∈ K ps (p : Int) (l + 1) := mem_K'.2 ⟨h3, by rw [h2]; exact parOf_lt hj⟩
        rw [hl2] at this; cases this
    have hnext : j ≠ l → (if K ps (parOf ps j) (j + 1) = [] then (if (p : Int) = parOf ps j then (ps.length : Int) else -1) else hd (K ps (parOf ps j) (j + 1))) = hd (K ps (parOf ps j) (j + 1)) := by
      intro hne
      split
      · rename_i h1
        rw [if_neg (fun e => hne (huniq h1 e)), h1]
        rfl
      · rfl
    by_cases hjp : j = p
    · subst hjp
      rw [hnext hpl]
      simp only [if_pos rfl, if_neg hKp, node, mk35, if_true]
    · have hne : ¬ ((p : Int) = (j : Int)) := by omega
      by_cases hjl : j = l
      · subst hjl
        simp only [if_neg hjp, if_neg hne, if_pos rfl, if_true, hparl, hl2, hd_if, node, mk35]
      · rw [hnext hjl]
        simp only [if_neg hjp, if_neg hne, if_neg hjl, hd_if, node, mk35]

/-! ### The document's arena -/

abbrev RefA := List NI × List Int × List Int × Unit

/-- The same arena, as the document holds it. -/
def rbuild (ds : List Dt) (ps : List Int) : RefA := ((List.range ps.length).map fun i => (node ds ps i).1, ps, (List.range ps.length).map fun i => (node ds ps i).2.2.1, ())

theorem room72 (m : Nat) (h : m ≤ 1000) : (decide (m * 72 ≤ maxRoom) && decide (m ≤ maxRoom)) = true := by
  rw [Bool.and_eq_true, decide_eq_true_eq, decide_eq_true_eq]
  unfold maxRoom
  omega
theorem room8 (m : Nat) (h : m ≤ 1000) : (decide (m * 8 ≤ maxRoom) && decide (m ≤ maxRoom)) = true := by
  rw [Bool.and_eq_true, decide_eq_true_eq, decide_eq_true_eq]
  unfold maxRoom
  omega

theorem F12j3_eq {ds : List Dt} {ps : List Int} (n : Nat) (h : Ok ds ps) (hl : ps.length < 400) {p : Int} (hp : p < (ps.length : Int)) (d : Dt) (ns : List NI) (ls : List Int)
    (hn : ns = (List.range ps.length).map fun i => (node (ds ++ [d]) (ps ++ [p]) i).1) (hls : ls = (List.range ps.length).map fun i => (node (ds ++ [d]) (ps ++ [p]) i).2.2.1) :
    F61j3 n p (ps.length : Int) d.1 d.2.1 d.2.2.1 d.2.2.2.1 d.2.2.2.2 (-1) (-1) ns ps ls = some (rbuild (ds ++ [d]) (ps ++ [p]), (ps.length : Int)) := by
  have hlast := node_last (d := d) h hp
  unfold F61j3
  have l1 : ns.length = ps.length := by rw [hn]; simp
  have l2 : ls.length = ps.length := by rw [hls]; simp
  simp only [List.length_singleton, l1, l2, room72 _ (show ps.length + 1 ≤ 1000 by omega), room8 _ (show ps.length + 1 ≤ 1000 by omega), cond_true]
  refine congrArg some (Prod.ext (Prod.ext ?_ (Prod.ext rfl (Prod.ext ?_ rfl))) rfl)
  · rw [hn]
    show _ ++ _ = (List.range (ps ++ [p]).length).map _
    rw [List.length_append, List.length_singleton]
    exact range_snoc _ _ _ _ (fun _ _ => rfl) (by rw [hlast]; rfl)
  · rw [hls]
    show _ ++ _ = (List.range (ps ++ [p]).length).map _
    rw [List.length_append, List.length_singleton]
    exact range_snoc _ _ _ _ (fun _ _ => rfl) (by rw [hlast])

theorem F12j1_eq (n : Nat) (p : Nat) (x : NI) (a : Int) (b : Int) (ns : List NI) (ps ls : List Int) (hp : p < ns.length) (q : NI) (hq : ∀ d, ns.getD p d = q) :
    F61j1 n (p : Int) x.1 x.2.1 x.2.2.1 x.2.2.2.1 x.2.2.2.2.1 a b ns ps ls = F61j4 n (p : Int) (ns.length : Int) (kept x q.1).1 (kept x q.1).2.1 (kept x q.1).2.2.1 (kept x q.1).2.2.2.1 (kept x q.1).2.2.2.2 (-1) (-1) ns ps ls := by
  have e1 : decide ((p : Int) ≥ 0) = true := by simp
  have e2 : inB (p : Int) ns.length = true := by simp [inB]; omega
  unfold F61j1 F61j2 kept
  simp only [e1, e2, Int.toNat_natCast, hq, cond_true]
  by_cases h2 : x.1 = 2
  · by_cases h6 : q.1 = 6 <;> simp [cond_eq_ite, h2, h6]
  · by_cases h3 : x.1 = 3
    · by_cases h6 : q.1 = 6 <;> simp [cond_eq_ite, h3, h6]
    · by_cases h4 : x.1 = 4 <;> by_cases h6 : q.1 = 6 <;> simp [cond_eq_ite, h2, h3, h4, h6]

theorem F12_add {ds : List Dt} {ps : List Int} (n : Nat) (h : Ok ds ps) (hl : ps.length < 400) {p : Nat} (hp : p < ps.length) {x : NI} (hk : 1 ≤ x.1 ∧ x.1 ≤ 6) (ho : (dtOf ds p).1 = 5 ∨ (dtOf ds p).1 = 6) :
    F61 n (rbuild ds ps) (p : Int) x = some (rbuild (ds ++ [kept x (dtOf ds p).1]) (ps ++ [(p : Int)]), (ps.length : Int)) := by
  have hpp : (p : Int) < (ps.length : Int) := by omega
  have e0 : (rbuild ds ps).1.length = ps.length := by simp [rbuild]
  have e1 : ((p : Int) == (-1)) = false := by simp
  have e2 : decide ((p : Int) < -1) = false := decide_eq_false (by omega)
  have e3 : decide ((p : Int) ≥ (ps.length : Int)) = false := decide_eq_false (by omega)
  have e4 : decide (x.1 < 1) = false := decide_eq_false (by omega)
  have e5 : decide (x.1 > 6) = false := decide_eq_false (by omega)
  have e6 : inB (p : Int) ps.length = true := by simp [inB]; omega
  have e7 : decide ((p : Int) ≥ 0) = true := by simp
  have gp : ∀ d, (rbuild ds ps).1.getD p d = (node ds ps p).1 := fun d => getD_range _ hp d
  have gl : ∀ d, (rbuild ds ps).2.2.1.getD p d = (node ds ps p).2.2.1 := fun d => getD_range _ hp d
  have ll : (rbuild ds ps).2.2.1.length = ps.length := by simp [rbuild]
  have hj1 := F12j1_eq n p x x.2.2.2.2.2.1 x.2.2.2.2.2.2.1 (rbuild ds ps).1 (rbuild ds ps).2.1 (rbuild ds ps).2.2.1 (by rw [e0]; exact hp) _ gp
  rw [e0] at hj1
  have step : F61 n (rbuild ds ps) (p : Int) x = F61j4 n (p : Int) (ps.length : Int) (kept x (dtOf ds p).1).1 (kept x (dtOf ds p).1).2.1 (kept x (dtOf ds p).1).2.2.1 (kept x (dtOf ds p).1).2.2.2.1 (kept x (dtOf ds p).1).2.2.2.2 (-1) (-1) (rbuild ds ps).1 (rbuild ds ps).2.1 (rbuild ds ps).2.2.1 := by
    have e8 : (node ds ps p).1.1 = (dtOf ds p).1 := rfl
    unfold F61 F61j0
    simp only [e0, e1, e2, e3, e4, e5, e6, e7, Int.toNat_natCast, gp, cond_true, cond_false, e8]
    rw [e8] at hj1
    rcases ho with ho | ho
    · rw [ho] at hj1 ⊢; exact hj1
    · rw [ho] at hj1 ⊢; exact hj1
  rw [step]
  unfold F61j4
  simp only [e0, e6, Int.toNat_natCast, gp, cond_true, ll, gl]
  have e9 : (node ds ps p).1.2.2.2.2.2.1 = hd (K ps (p : Int) 0) := rfl
  rw [e9]
  cases hlast : (K ps (p : Int) 0).getLast? with
  | none =>
    have hK : K ps (p : Int) 0 = [] := by simpa using hlast
    have e10 : decide (hd (K ps (p : Int) 0) < 0) = true := by rw [hK]; rfl
    simp only [e10, cond_true]
    refine F12j3_eq n h hl hpp _ _ _ ?_ ?_
    · simp only [rbuild, range_set]
      refine List.map_congr_left fun j hj => ?_
      have hj := List.mem_range.1 hj
      rw [node_snoc h.len hj]
      have hno : parOf ps j ≠ (p : Int) := fun e => by
        have : j ∈ K ps (p : Int) 0 := mem_K'.2 ⟨Nat.zero_le _, by rw [parOf_lt hj, e]⟩
        rw [hK] at this; cases this
      by_cases hjp : j = p
      · subst hjp
        simp [hK, Ne.symm hno, node, mk35, hd]
        intro h0; simp [h0]
      · have hne : ¬ ((p : Int) = (j : Int)) := by omega
        simp only [if_neg hjp, if_neg hne, if_neg (Ne.symm hno), node, mk35, hd_if]
    · simp only [rbuild, range_set]
      refine List.map_congr_left fun j hj => ?_
      have hj := List.mem_range.1 hj
      rw [node_snoc h.len hj]
      by_cases hjp : j = p
      · subst hjp; simp
      · have hne : ¬ ((p : Int) = (j : Int)) := by omega
        simp only [if_neg hjp, if_neg hne, node]
  | some l =>
    obtain ⟨_, hl1, hl2⟩ := last_K rfl hlast
    have hlt : l < ps.length := (List.getElem?_eq_some_iff.1 hl1).1
    have hpl : p ≠ l := by
      rcases h.par _ _ hl1 with ⟨_, h2⟩ | ⟨_, h2⟩ <;> omega
    have hKp : K ps (p : Int) 0 ≠ [] := by intro e; rw [e] at hlast; cases hlast
    have e10 : decide (hd (K ps (p : Int) 0) < 0) = false := by
      cases hk : K ps (p : Int) 0 with
      | nil => exact absurd hk hKp
      | cons a r => exact decide_eq_false (show ¬ ((a : Int) < 0) by omega)
    have e11 : (node ds ps p).2.2.1 = (l : Int) := by simp only [node, lastI, hlast]
    have e12 : inB (l : Int) ps.length = true := by simp [inB]; omega
    have gll : ∀ d, (rbuild ds ps).1.getD l d = (node ds ps l).1 := fun d => getD_range _ hlt d
    have hparl : parOf ps l = (p : Int) := by
      have := parOf_lt hlt
      rw [hl1] at this
      exact (Option.some.inj this).symm
    simp only [e10, e11, e12, cond_true, cond_false, Int.toNat_natCast, gll]
    refine F12j3_eq n h hl hpp _ _ _ ?_ ?_
    · simp only [rbuild, range_set]
      refine List.map_congr_left fun j hj => ?_
      have hj := List.mem_range.1 hj
      rw [node_snoc h.len hj]
      have huniq : K ps (parOf ps j) (j + 1) = [] → (p : Int) = parOf ps j → j = l := by
        intro h1 h2
        rcases Nat.lt_trichotomy j l with h3 | h3 | h3
        · have : l ∈ K ps (parOf ps j) (j + 1) := mem_K'.2 ⟨h3, by rw [← h2]; exact hl1⟩
          rw [h1] at this; cases this
        · exact h3
        · have : j ∈ K ps (p : Int) (l + 1) := mem_K'.2 ⟨h3, by rw [h2]; exact parOf_lt hj⟩
          rw [hl2] at this; cases this
      have hfirst : (if K ps (j : Int) 0 = [] then (if (p : Int) = (j : Int) then (ps.length : Int) else -1) else hd (K ps (j : Int) 0)) = hd (K ps (j : Int) 0) := by
        by_cases hjp : j = p
        · subst hjp; rw [if_neg hKp]
        · rw [if_neg (show ¬ ((p : Int) = (j : Int)) by omega), hd_if]
      rw [hfirst]
      by_cases hjl : j = l
      · subst hjl
        simp only [if_pos rfl, if_true, hparl, hl2, node, mk35]
      · have hnext : (if K ps (parOf ps j) (j + 1) = [] then (if (p : Int) = parOf ps j then (ps.length : Int) else -1) else hd (K ps (parOf ps j) (j + 1))) = hd (K ps (parOf ps j) (j + 1)) := by
          split
          · rename_i h1
            rw [if_neg (fun e => hjl (huniq h1 e)), h1]
            rfl
          · rfl
        rw [hnext]
        simp only [if_neg hjl, node, mk35]
    · simp only [rbuild, range_set]
      refine List.map_congr_left fun j hj => ?_
      have hj := List.mem_range.1 hj
      rw [node_snoc h.len hj]
      by_cases hjp : j = p
      · subst hjp; simp
      · have hne : ¬ ((p : Int) = (j : Int)) := by omega
        simp only [if_neg hjp, if_neg hne, node]


def isOpen (k : Int) : Prop := k = 5 ∨ k = 6

/-- May this be put there? -/
def Good (ds : List Dt) (ps : List Int) (p : Int) (x : NI) : Prop :=
  (1 ≤ x.1 ∧ x.1 ≤ 6) ∧ ((p = -1 ∧ ps.length = 0) ∨ (0 ≤ p ∧ p < (ps.length : Int) ∧ isOpen (dtOf ds p.toNat).1))

def kindP (ds : List Dt) (p : Int) : Int := if 0 ≤ p then (dtOf ds p.toNat).1 else 0

theorem F11_good {ds : List Dt} {ps : List Int} (n : Nat) (h : Ok ds ps) (hl : ps.length < 400) {p : Int} {x : NI} (hg : Good ds ps p x) :
    F60 n (build ds ps, ()) p x = some ((build (ds ++ [kept x (kindP ds p)]) (ps ++ [p]), ()), (ps.length : Int)) ∧
    F61 n (rbuild ds ps) p x = some (rbuild (ds ++ [kept x (kindP ds p)]) (ps ++ [p]), (ps.length : Int)) := by
  obtain ⟨hk, ⟨rfl, h0⟩ | ⟨h1, h2, h3⟩⟩ := hg
  · have hps : ps = [] := List.length_eq_zero_iff.1 h0
    have hds : ds = [] := List.length_eq_zero_iff.1 (by rw [h.len, h0])
    subst hps hds
    have e4 : decide (x.1 < 1) = false := decide_eq_false (by omega)
    have e5 : decide (x.1 > 6) = false := decide_eq_false (by omega)
    have hkp : kindP [] (-1) = 0 := rfl
    constructor
    · unfold F60
      simp only [e4, e5, cond_false, F26_eq]
      rfl
    · have hj3 := F12j3_eq n h hl (p := -1) (by simp) (kept x 0) [] [] rfl rfl
      unfold F61 F61j0 F61j1 F61j2
      simp only [e4, e5, cond_false]
      rw [hkp]
      refine Eq.trans ?_ hj3
      unfold kept
      by_cases h2 : x.1 = 2
      · simp [cond_eq_ite, h2, rbuild]
      · by_cases h3 : x.1 = 3
        · simp [cond_eq_ite, h3, rbuild]
        · by_cases h4 : x.1 = 4 <;> simp [cond_eq_ite, h2, h3, h4, rbuild]
  · obtain ⟨q, rfl⟩ : ∃ q : Nat, p = (q : Int) := ⟨p.toNat, by omega⟩
    have hq : q < ps.length := by omega
    have e : kindP ds (q : Int) = (dtOf ds q).1 := by simp [kindP]
    rw [e]
    have h3' : (dtOf ds q).1 = 5 ∨ (dtOf ds q).1 = 6 := by simpa [isOpen] using h3
    exact ⟨F11_add n h hl hq hk h3', F12_add n h hl hq hk h3'⟩

theorem ok_good {ds : List Dt} {ps : List Int} (h : Ok ds ps) (hl : ps.length < 400) {p : Int} {x : NI} (hg : Good ds ps p x) : Ok (ds ++ [kept x (kindP ds p)]) (ps ++ [p]) := by
  refine ⟨by simp [h.len], by simp; omega, fun i q hi => ?_, fun i d hi => ?_⟩
  · by_cases hlt : i < ps.length
    · rw [List.getElem?_append_left hlt] at hi
      exact h.par i q hi
    · rw [List.getElem?_append_right (by omega)] at hi
      have h0 : i - ps.length = 0 := by
        have := (List.getElem?_eq_some_iff.1 hi).1
        simp at this
        omega
      rw [h0] at hi
      simp at hi
      subst hi
      have : i = ps.length := by omega
      subst this
      rcases hg.2 with ⟨h1, h2⟩ | ⟨h1, h2, _⟩
      · exact .inl ⟨h2, h1⟩
      · exact .inr ⟨h1, h2⟩
  · by_cases hlt : i < ds.length
    · rw [List.getElem?_append_left hlt] at hi
      exact h.kind i d hi
    · rw [List.getElem?_append_right (by omega)] at hi
      have h0 : i - ds.length = 0 := by
        have := (List.getElem?_eq_some_iff.1 hi).1
        simp at this
        omega
      rw [h0] at hi
      simp at hi
      subst hi
      exact hg.1

theorem F11_bad {ds : List Dt} {ps : List Int} (n : Nat) (h : Ok ds ps) {p : Int} {x : NI} (hg : ¬ Good ds ps p x) :
    F60 n (build ds ps, ()) p x = some ((build ds ps, ()), -1) ∧ F61 n (rbuild ds ps) p x = some (rbuild ds ps, -1) := by
  have e0 : (rbuild ds ps).1.length = ps.length := by simp [rbuild]
  by_cases hx : x.1 < 1
  · have e4 : decide (x.1 < 1) = true := decide_eq_true hx
    constructor
    · unfold F60
      simp only [e4, cond_true]
      simp only [cond_eq_ite, build_length]
      split <;> (try split) <;> (try split) <;> first | rfl | (rename_i h1 h2 h3; simp [inB] at h1 h2 h3; omega)
    · unfold F61
      simp only [e4, cond_true]
  · by_cases hx6 : x.1 > 6
    · have e4 : decide (x.1 < 1) = false := decide_eq_false hx
      have e5 : decide (x.1 > 6) = true := decide_eq_true hx6
      constructor
      · unfold F60
        simp only [e4, e5, cond_true, cond_false]
        simp only [cond_eq_ite, build_length]
        split <;> (try split) <;> (try split) <;> first | rfl | (rename_i h1 h2 h3; simp [inB] at h1 h2 h3; omega)
      · unfold F61
        simp only [e4, e5, cond_true, cond_false]
    · have e4 : decide (x.1 < 1) = false := decide_eq_false hx
      have e5 : decide (x.1 > 6) = false := decide_eq_false hx6
      have hg2 : ¬ ((p = -1 ∧ ps.length = 0) ∨ (0 ≤ p ∧ p < (ps.length : Int) ∧ isOpen (dtOf ds p.toNat).1)) := fun e => hg ⟨⟨by omega, by omega⟩, e⟩
      by_cases hin : 0 ≤ p ∧ p < (ps.length : Int)
      · obtain ⟨q, rfl⟩ : ∃ q : Nat, p = (q : Int) := ⟨p.toNat, by omega⟩
        have hq : q < ps.length := by omega
        have hno : ¬ isOpen (dtOf ds q).1 := fun e => hg2 (.inr ⟨hin.1, hin.2, by simpa using e⟩)
        have n5 : ((dtOf ds q).1 == 5) = false := by simp; exact fun e => hno (.inl e)
        have n6 : ((dtOf ds q).1 == 6) = false := by simp; exact fun e => hno (.inr e)
        have gp : ∀ d, (build ds ps).getD (Int.toNat (q : Int)) d = node ds ps q := fun d => by rw [Int.toNat_natCast]; exact build_getD hq d
        have e8 : (node ds ps q).1.1 = (dtOf ds q).1 := rfl
        have e1 : decide ((q : Int) < 0) = false := decide_eq_false (by omega)
        have e2 : decide ((q : Int) ≥ (ps.length : Int)) = false := decide_eq_false (by omega)
        have e3 : inB (q : Int) ps.length = true := by simp [inB]; omega
        constructor
        · unfold F60 F75
          simp only [e1, e2, e3, e4, e5, build_length, gp, e8, n5, n6, cond_true, cond_false, Bool.not_false]
        · have r1 : ((q : Int) == (-1)) = false := by simp
          have r2 : decide ((q : Int) < -1) = false := decide_eq_false (by omega)
          have r7 : decide ((q : Int) ≥ 0) = true := by simp
          have gr : ∀ d, (rbuild ds ps).1.getD q d = (node ds ps q).1 := fun d => getD_range _ hq d
          have m5 : ((dtOf ds q).1 != 5) = true := by simp [bne, n5]
          have m6 : ((dtOf ds q).1 != 6) = true := by simp [bne, n6]
          unfold F61 F61j0
          simp only [e0, r1, r2, e2, e4, e5, e3, r7, Int.toNat_natCast, gr, e8, m5, m6, cond_true, cond_false]
      · constructor
        · unfold F60
          simp only [e4, e5, cond_false, build_length]
          by_cases hp : p < 0
          · rw [decide_eq_true hp]
            simp only [cond_true]
            by_cases hp1 : p = -1
            · have h0 : (ps.length : Int) > 0 := by
                have : ps.length ≠ 0 := fun e => hg2 (.inl ⟨hp1, e⟩)
                omega
              rw [decide_eq_true h0, hp1]
              rfl
            · have : (p != -1) = true := by simpa using hp1
              rw [this]
              rfl
          · rw [decide_eq_false hp, decide_eq_true (show p ≥ (ps.length : Int) by omega)]
            have : (p != -1) = true := by simp; omega
            simp only [cond_true, cond_false, this]
        · unfold F61
          simp only [e4, e5, cond_false, e0]
          by_cases hp1 : p = -1
          · have h0 : (ps.length : Int) > 0 := by
              have : ps.length ≠ 0 := fun e => hg2 (.inl ⟨hp1, e⟩)
              omega
            rw [decide_eq_true h0, hp1]
            rfl
          · have : (p == -1) = false := by simpa using hp1
            rw [this]
            simp only [cond_false]
            by_cases hp : p < -1
            · rw [decide_eq_true hp]; rfl
            · rw [decide_eq_false hp, decide_eq_true (show p ≥ (ps.length : Int) by omega)]
              rfl

/-- What comes of Add: both arenas alike. -/
theorem add_both {ds : List Dt} {ps : List Int} (n : Nat) (h : Ok ds ps) (hl : ps.length < 400) (p : Int) (x : NI) :
    ∃ ds' ps' r, F60 n (build ds ps, ()) p x = some ((build ds' ps', ()), r) ∧ F61 n (rbuild ds ps) p x = some (rbuild ds' ps', r) ∧ Ok ds' ps' ∧ ps'.length ≤ ps.length + 1 := by
  by_cases hg : Good ds ps p x
  · obtain ⟨h1, h2⟩ := F11_good n h hl hg
    exact ⟨_, _, _, h1, h2, ok_good h hl hg, by simp⟩
  · obtain ⟨h1, h2⟩ := F11_bad n h hg
    exact ⟨_, _, _, h1, h2, h, by omega⟩


abbrev A1 (ds : List Dt) (ps : List Int) : Option (List NodeI × Unit) := some (build ds ps, ())
abbrev A2 (ds : List Dt) (ps : List Int) : Option RefA := some (rbuild ds ps)

section
variable {ds : List Dt} {ps : List Int}

theorem F24_in (n : Nat) {i : Nat} (h : i < ps.length) : F52 n (A1 ds ps) (i : Int) = some (some (node ds ps i)) := by
  have e1 : decide ((i : Int) < 0) = false := decide_eq_false (by omega)
  have e2 : decide ((i : Int) ≥ (ps.length : Int)) = false := decide_eq_false (by omega)
  have e3 : inB (i : Int) ps.length = true := by simp [inB]; omega
  have g : ∀ d, (build ds ps).getD (Int.toNat (i : Int)) d = node ds ps i := fun d => by rw [Int.toNat_natCast]; exact build_getD h d
  unfold F52
  simp only [A1, Option.isSome_some, Option.getD_some, build_length, e1, e2, e3, g, cond_true, cond_false]

theorem F24_out (n : Nat) {i : Int} (h : ¬ (0 ≤ i ∧ i < (ps.length : Int))) : F52 n (A1 ds ps) i = some none := by
  unfold F52
  by_cases h1 : i < 0
  · rw [decide_eq_true h1]; rfl
  · rw [decide_eq_false h1]
    have e2 : decide (i ≥ (ps.length : Int)) = true := decide_eq_true (by omega)
    simp only [A1, Option.isSome_some, Option.getD_some, build_length, e2, cond_true, cond_false]

theorem F31_in (n : Nat) {i : Nat} (h : i < ps.length) : F63 n (A2 ds ps) (i : Int) = some true := by
  have e1 : decide ((i : Int) ≥ 0) = true := by simp
  have e2 : decide ((i : Int) < (ps.length : Int)) = true := decide_eq_true (by omega)
  have e0 : (rbuild ds ps).1.length = ps.length := by simp [rbuild]
  unfold F63
  simp only [A2, Option.isSome_some, Option.getD_some, e0, e1, e2, cond_true]

theorem F31_out (n : Nat) {i : Int} (h : ¬ (0 ≤ i ∧ i < (ps.length : Int))) : F63 n (A2 ds ps) i = some false := by
  have e0 : (rbuild ds ps).1.length = ps.length := by simp [rbuild]
  unfold F63
  by_cases h1 : i ≥ 0
  · have e2 : decide (i < (ps.length : Int)) = false := decide_eq_false (by omega)
    simp only [A2, Option.isSome_some, Option.getD_some, e0, decide_eq_true h1, e2, cond_true]
  · rw [decide_eq_false h1]; rfl

theorem rl1 : (rbuild ds ps).1.length = ps.length := by simp [rbuild]
theorem rl2 : (rbuild ds ps).2.1.length = ps.length := rfl
theorem rg1 {i : Nat} (h : i < ps.length) (d : NI) : (rbuild ds ps).1.getD i d = (node ds ps i).1 := getD_range _ h d
theorem rg2 {i : Nat} (h : i < ps.length) (d : Int) : (rbuild ds ps).2.1.getD i d = parOf ps i := by
  show ps.getD i d = ps.getD i (-1)
  simp [List.getD, List.getElem?_eq_getElem h]
theorem inB_nat {i m : Nat} (h : i < m) : inB (i : Int) m = true := by simp [inB]; omega

def d0 : NI := (0, false, 0, [], [], 0, 0, ())

theorem node_in (n : Nat) {i : Nat} (h : i < ps.length) : F45 n (A1 ds ps) (i : Int) = some ((node ds ps i).1, true) ∧ F48 n (A2 ds ps) (i : Int) = some ((node ds ps i).1, true) := by
  constructor
  · unfold F45
    rw [F24_in n h]
    rfl
  · unfold F48
    rw [F31_in n h]
    simp only [A2, Option.isSome_some, Option.getD_some, Bool.not_true, cond_false, cond_true, rl1, inB_nat h, Int.toNat_natCast, rg1 h]
theorem node_out (n : Nat) {i : Int} (h : ¬ (0 ≤ i ∧ i < (ps.length : Int))) : F45 n (A1 ds ps) i = some (d0, false) ∧ F48 n (A2 ds ps) i = some (d0, false) := by
  constructor
  · unfold F45; rw [F24_out n h]; rfl
  · unfold F48; rw [F31_out n h]; rfl

theorem par_in (n : Nat) {i : Nat} (h : i < ps.length) : F34 n (A1 ds ps) (i : Int) = some (parOf ps i) := by
  unfold F34; rw [F24_in n h]; rfl
theorem par_out (n : Nat) {i : Int} (h : ¬ (0 ≤ i ∧ i < (ps.length : Int))) : F34 n (A1 ds ps) i = some (-1) := by
  unfold F34; rw [F24_out n h]; rfl

theorem len_eq (n : Nat) : F32 n (A1 ds ps) = some (ps.length : Int) := by
  unfold F32
  simp only [A1, Option.isSome_some, Option.getD_some, cond_true, build_length]

/-! ### Depth -/

theorem kind_of (h : Ok ds ps) {i : Nat} (hi : i < ps.length) : 1 ≤ (dtOf ds i).1 ∧ (dtOf ds i).1 ≤ 6 := by
  have : ds[i]? = some (dtOf ds i) := by
    unfold dtOf; rw [List.getD_eq_getElem?_getD, List.getElem?_eq_getElem (by rw [h.len]; exact hi)]; rfl
  exact h.kind i _ this

theorem parOf_range (h : Ok ds ps) {i : Nat} (hi : i < ps.length) : (i = 0 ∧ parOf ps i = -1) ∨ ∃ q : Nat, parOf ps i = (q : Int) ∧ q < i := by
  rcases h.par i _ (parOf_lt hi) with h1 | ⟨h1, h2⟩
  · exact .inl h1
  · exact .inr ⟨(parOf ps i).toNat, by omega, by omega⟩

/-! ### Kids -/

theorem K_cons {ps : List Int} {q : Int} : ∀ {m a : Nat}, ps.length - a = m → ∀ {j : Nat} {r : List Nat}, K ps q a = j :: r → a ≤ j ∧ ps[j]? = some q ∧ r = K ps q (j + 1)
  | 0, a, h, j, r, e => by rw [K_ge (by omega)] at e; cases e
  | m + 1, a, h, j, r, e => by
    have ha : a < ps.length := by omega
    rw [K_step ha] at e
    split at e
    · rename_i e2
      cases e
      exact ⟨Nat.le_refl _, by rw [List.getElem?_eq_getElem ha, e2], rfl⟩
    · obtain ⟨h1, h2⟩ := K_cons (m := m) (by omega) e
      exact ⟨by omega, h2⟩

theorem K_len {ps : List Int} {q : Int} : ∀ {m a : Nat}, ps.length - a = m → (K ps q a).length ≤ m
  | 0, a, h => by rw [K_ge (by omega)]; simp
  | m + 1, a, h => by
    rw [K_step (by omega)]
    have := K_len (ps := ps) (q := q) (m := m) (a := a + 1) (by omega)
    split <;> simp <;> omega

abbrev ints (l : List Nat) : List Int := l.map fun (j : Nat) => (j : Int)

theorem node_next {j : Nat} {q : Int} (hj : ps[j]? = some q) : (node ds ps j).1.2.2.2.2.2.2.1 = hd (K ps q (j + 1)) := by
  have hlt := (List.getElem?_eq_some_iff.1 hj).1
  have : parOf ps j = q := by have := parOf_lt hlt; rw [hj] at this; exact (Option.some.inj this).symm
  show hd (K ps (parOf ps j) (j + 1)) = _
  rw [this]

theorem kidsL_eq {q : Int} : ∀ (l : List Nat) (a : Nat), K ps q a = l → ∀ m, l.length + 1 ≤ m → kidsL (build ds ps) m (hd l) = some (ints l)
  | [], a, e, m, hm => by
    obtain ⟨m, rfl⟩ : ∃ k, m = k + 1 := ⟨m - 1, by omega⟩
    rfl
  | j :: r, a, e, m, hm => by
    simp only [List.length_cons] at hm
    obtain ⟨m, rfl⟩ : ∃ k, m = k + 1 := ⟨m - 1, by omega⟩
    obtain ⟨_, h1, h2⟩ := K_cons rfl e
    have hlt := (List.getElem?_eq_some_iff.1 h1).1
    have e1 : ((j : Int) == -1) = false := by simp
    have e2 : (decide ((0 : Int) ≤ (j : Int)) && decide ((j : Int) < ((build ds ps).length : Int))) = true := by simp; omega
    have e3 : NodeI.next ((build ds ps).getD (Int.toNat (j : Int)) (Ty.dflt NodeT)) = hd r := by
      rw [Int.toNat_natCast, build_getD hlt]
      rw [h2]
      exact node_next h1
    show kidsL _ (m + 1) (j : Int) = _
    simp only [kidsL, e1, e2, e3, cond_true, cond_false]
    rw [kidsL_eq r (j + 1) h2.symm m (by omega)]
    rfl

theorem kidsOf_in (n : Nat) (h : Ok ds ps) (hn : 1000 ≤ n) {i : Nat} (hi : i < ps.length) : kidsOf n (A1 ds ps) (i : Int) = some (ints (K ps (i : Int) 0)) := by
  have e2 : (decide ((0 : Int) ≤ (i : Int)) && decide ((i : Int) < ((build ds ps).length : Int))) = true := by simp; omega
  have := K_len (ps := ps) (q := (i : Int)) (a := 0) rfl
  have hle := h.le
  have e3 : NodeI.first ((build ds ps).getD (Int.toNat (i : Int)) (Ty.dflt NodeT)) = hd (K ps (i : Int) 0) := by
    rw [Int.toNat_natCast, build_getD hi]
    rfl
  simp only [kidsOf, A1, e2, e3, cond_true]
  exact kidsL_eq _ 0 rfl n (by omega)

theorem kids_in (n : Nat) (h : Ok ds ps) (hn : 1000 ≤ n) {i : Nat} (hi : i < ps.length) : F47 n (A1 ds ps) (i : Int) = some (ints (K ps (i : Int) 0)) := by
  have := K_len (ps := ps) (q := (i : Int)) (a := 0) rfl
  have hle := h.le
  simp only [F47, kidsOf_in n h hn hi]
  rw [decide_eq_true (by simp; omega)]
  rfl
theorem kids_out (n : Nat) {i : Int} (h : ¬ (0 ≤ i ∧ i < (ps.length : Int))) : F47 n (A1 ds ps) i = some [] := by
  have e2 : (decide (0 ≤ i) && decide (i < ((build ds ps).length : Int))) = false := by
    rw [build_length, ← Bool.decide_and]
    exact decide_eq_false h
  simp only [F47, kidsOf, A1, e2, cond_false]
  rfl

theorem kids29_loop (n : Nat) {q : Int} : ∀ (l : List Nat) (a : Nat), K ps q a = l → ∀ (m : Nat) (acc : List Int), l.length + 1 ≤ m → acc.length + l.length ≤ 1000 → F50l0 n m (A2 ds ps) acc (hd l) = some (acc ++ ints l)
  | [], a, e, m, acc, hm, hacc => by
    obtain ⟨m, rfl⟩ : ∃ k, m = k + 1 := ⟨m - 1, by omega⟩
    show F50l0F n _ _ _ _ = _
    unfold F50l0F
    simp [hd]
  | j :: r, a, e, m, acc, hm, hacc => by
    simp only [List.length_cons] at hm hacc
    obtain ⟨m, rfl⟩ : ∃ k, m = k + 1 := ⟨m - 1, by omega⟩
    obtain ⟨_, h1, h2⟩ := K_cons rfl e
    have hlt := (List.getElem?_eq_some_iff.1 h1).1
    have e1 : decide ((j : Int) ≥ 0) = true := by simp
    show F50l0F n _ _ _ (j : Int) = _
    unfold F50l0F
    simp only [A2, Option.isSome_some, Option.getD_some, List.length_singleton, e1, room8 _ (show acc.length + 1 ≤ 1000 by omega), cond_true, rl1, inB_nat hlt, Int.toNat_natCast, rg1 hlt, node_next h1]
    rw [← h2]
    have := kids29_loop n r (j + 1) h2.symm m (acc ++ [(j : Int)]) (by omega) (by simp; omega)
    rw [this]
    simp
theorem kids29_in (n : Nat) (h : Ok ds ps) (hn : 1000 ≤ n) {i : Nat} (hi : i < ps.length) : F50 n (A2 ds ps) (i : Int) = some (ints (K ps (i : Int) 0)) := by
  have := K_len (ps := ps) (q := (i : Int)) (a := 0) rfl
  have hle := h.le
  unfold F50
  rw [F31_in n hi]
  simp only [A2, Option.isSome_some, Option.getD_some, Bool.not_true, cond_false, cond_true, rl1, inB_nat hi, Int.toNat_natCast, rg1 hi]
  exact kids29_loop n _ 0 rfl n [] (by omega) (by simp; omega)
theorem kids29_out (n : Nat) {i : Int} (h : ¬ (0 ≤ i ∧ i < (ps.length : Int))) : F50 n (A2 ds ps) i = some [] := by
  unfold F50
  rw [F31_out n h]
  rfl

/-! ### Names -/

def findN (ds : List Dt) (ps : List Int) (name : List UInt8) (l : List Nat) : Int :=
  match (ints l).find? (hit (build ds ps) name) with
  | some k => k
  | none => -1

theorem find16_loop (n : Nat) (name : List UInt8) {q : Int} : ∀ (l : List Nat) (a : Nat), K ps q a = l → ∀ (m : Nat), l.length + 1 ≤ m → F49l0 n m (A2 ds ps) name (hd l) = some (findN ds ps name l)
  | [], a, e, m, hm => by
    obtain ⟨m, rfl⟩ : ∃ k, m = k + 1 := ⟨m - 1, by omega⟩
    show F49l0F n _ _ _ _ = _
    unfold F49l0F
    simp [hd, findN]
  | j :: r, a, e, m, hm => by
    simp only [List.length_cons] at hm
    obtain ⟨m, rfl⟩ : ∃ k, m = k + 1 := ⟨m - 1, by omega⟩
    obtain ⟨_, h1, h2⟩ := K_cons rfl e
    have hlt := (List.getElem?_eq_some_iff.1 h1).1
    have e1 : decide ((j : Int) ≥ 0) = true := by simp
    have eh : hit (build ds ps) name (j : Int) = ((node ds ps j).1.2.2.2.2.1 == name) := by
      unfold hit
      rw [Int.toNat_natCast, build_getD hlt]
      rfl
    show F49l0F n _ _ _ (j : Int) = _
    unfold F49l0F
    simp only [A2, Option.isSome_some, Option.getD_some, e1, cond_true, rl1, inB_nat hlt, Int.toNat_natCast, rg1 hlt, node_next h1]
    cases hb : ((node ds ps j).1.2.2.2.2.1 == name) with
    | true =>
      simp only [cond_true, findN, ints, List.map_cons, List.find?_cons, eh, hb]
    | false =>
      rw [hb] at eh
      simp only [cond_false]
      rw [← h2, find16_loop n name r (j + 1) h2.symm m (by omega)]
      simp only [findN, ints, List.map_cons, List.find?_cons, eh]

theorem find_in (n : Nat) (h : Ok ds ps) (hn : 1000 ≤ n) {i : Nat} (hi : i < ps.length) (name : List UInt8) :
    F46 n (A1 ds ps) (i : Int) name = some (if (dtOf ds i).1 = 6 then findN ds ps name (K ps (i : Int) 0) else -1) ∧
    F49 n (A2 ds ps) (i : Int) name = some (if (dtOf ds i).1 = 6 then findN ds ps name (K ps (i : Int) 0) else -1) := by
  have hle := h.le
  have hkl := K_len (ps := ps) (q := (i : Int)) (a := 0) rfl
  constructor
  · have e2 : (decide ((0 : Int) ≤ (i : Int)) && decide ((i : Int) < ((build ds ps).length : Int))) = true := by simp; omega
    have e4 : NodeI.kind ((build ds ps).getD (Int.toNat (i : Int)) (Ty.dflt NodeT)) = (dtOf ds i).1 := by
      rw [Int.toNat_natCast, build_getD hi]; rfl
    have e3 : NodeI.first ((build ds ps).getD (Int.toNat (i : Int)) (Ty.dflt NodeT)) = hd (K ps (i : Int) 0) := by
      rw [Int.toNat_natCast, build_getD hi]; rfl
    simp only [F46, A1, e2, e3, e4, cond_true]
    by_cases hk : (dtOf ds i).1 = 6
    · rw [if_pos hk]
      have : ((dtOf ds i).1 == 6) = true := by simpa using hk
      rw [this, kidsL_eq _ 0 rfl n (by omega)]
      rfl
    · rw [if_neg hk]
      have : ((dtOf ds i).1 == 6) = false := by simpa using hk
      rw [this]
      rfl
  · unfold F49
    rw [F31_in n hi]
    have e8 : (node ds ps i).1.1 = (dtOf ds i).1 := rfl
    simp only [A2, Option.isSome_some, Option.getD_some, Bool.not_true, cond_false, cond_true, rl1, inB_nat hi, Int.toNat_natCast, rg1 hi, e8]
    by_cases hk : (dtOf ds i).1 = 6
    · rw [if_pos hk]
      have : ((dtOf ds i).1 != 6) = false := by simpa using hk
      rw [this]
      exact find16_loop n name _ 0 rfl n (by omega)
    · rw [if_neg hk]
      have : ((dtOf ds i).1 != 6) = true := by simpa using hk
      rw [this]
      rfl
theorem find_out (n : Nat) {i : Int} (h : ¬ (0 ≤ i ∧ i < (ps.length : Int))) (name : List UInt8) : F46 n (A1 ds ps) i name = some (-1) ∧ F49 n (A2 ds ps) i name = some (-1) := by
  constructor
  · have e2 : (decide (0 ≤ i) && decide (i < ((build ds ps).length : Int))) = false := by
      rw [build_length, ← Bool.decide_and]
      exact decide_eq_false h
    simp only [F46, A1, e2, cond_false]
  · unfold F49; rw [F31_out n h]; rfl
end


end Go.Proofs.YtaeamjhgfhcjdaaDoor.Ab.Ar

/- A value's arena: what Make makes; where tokens lead. -/
namespace Go.Proofs.YtaeamjhgfhcjdaaDoor.Ab.Pt
open Go Go.RowKit Go.Proofs.YtaeamjhgfhcjdaaDoor.Ab Go.Proofs.YtaeamjhgfhcjdaaDoor.Ab.Ar
set_option maxRecDepth 100000
set_option linter.unusedVariables false
set_option linter.unusedSimpArgs false

/-- What a node is called. -/
def nm (ds : List Dt) (j : Nat) : List UInt8 := (dtOf ds j).2.2.2.2

/-- How deep a node is. -/
inductive Dep (ps : List Int) : Nat → Nat → Prop
  | root {i : Nat} (h : parOf ps i = -1) : Dep ps i 0
  | step {i q d : Nat} (h : parOf ps i = (q : Int)) (k : Dep ps q d) : Dep ps i (d + 1)

structure TreeOK (ds : List Dt) (ps : List Int) : Prop where
  ok : Ok ds ps
  opn : ∀ (j q : Nat), j < ps.length → parOf ps j = (q : Int) → isOpen (dtOf ds q).1
  uni : ∀ (j k q : Nat), j < ps.length → k < ps.length → j ≠ k → parOf ps j = (q : Int) → parOf ps k = (q : Int) → (dtOf ds q).1 = 6 → nm ds j ≠ nm ds k
  val : ∀ (j : Nat), j < ps.length → okN (nm ds j) = true
  dep : ∀ (j : Nat), j < ps.length → ∃ d, d ≤ 4 ∧ Dep ps j d

theorem parOf_app {ps b : List Int} {j : Nat} (h : j < ps.length) : parOf (ps ++ b) j = parOf ps j := by
  simp [parOf, List.getD, List.getElem?_append_left h]
theorem dtOf_app {ds b : List Dt} {j : Nat} (h : j < ds.length) : dtOf (ds ++ b) j = dtOf ds j := by
  simp [dtOf, List.getD, List.getElem?_append_left h]
theorem nm_app {ds b : List Dt} {j : Nat} (h : j < ds.length) : nm (ds ++ b) j = nm ds j := by unfold nm; rw [dtOf_app h]

theorem Dep.app {ds : List Dt} {ps b : List Int} (h : Ok ds ps) {j d : Nat} (hj : j < ps.length) (k : Dep ps j d) : Dep (ps ++ b) j d := by
  induction k with
  | root h0 => exact .root (by rw [parOf_app hj]; exact h0)
  | @step i q d h0 k ih =>
    have hq : q < ps.length := by
      rcases parOf_range h hj with ⟨_, h1⟩ | ⟨q', h1, h2⟩
      · rw [h1] at h0; omega
      · rw [h1] at h0; omega
    exact .step (by rw [parOf_app hj]; exact h0) (ih hq)

def vsz : Nat → V → Nat
  | 0, _ => 0
  | d + 1, v => 1 + (v.kids.map (vsz d)).sum

theorem sum_le {l : List Nat} {b : Nat} (h : ∀ x ∈ l, x ≤ b) : l.sum ≤ l.length * b := by
  induction l with
  | nil => simp
  | cons x l ih =>
    have := ih fun y hy => h y (by simp [hy])
    have := h x (by simp)
    simp only [List.sum_cons, List.length_cons, Nat.succ_mul]; omega

theorem GV.size : ∀ {d : Nat} {v : V}, GV d v → 3 * vsz d v + 1 ≤ 4 ^ d
  | 0, _, h => h.elim
  | d + 1, v, h => by
    obtain ⟨_, _, h3, _, _, _, h7⟩ := h
    have : ∀ x ∈ v.kids.map (vsz d), x ≤ (4 ^ d - 1) / 3 := by
      intro x hx
      obtain ⟨k, hk, rfl⟩ := List.mem_map.1 hx
      have := GV.size (h7 k hk)
      omega
    have hs := sum_le this
    rw [List.length_map] at hs
    have h4 : v.kids.length * ((4 ^ d - 1) / 3) ≤ 4 * ((4 ^ d - 1) / 3) := Nat.mul_le_mul_right _ h3
    have hp : 0 < 4 ^ d := Nat.pow_pos (by omega)
    unfold vsz
    rw [Nat.pow_succ]
    omega

/-- Where a value may be put: nowhere yet; under an open node. -/
def Place (ds : List Dt) (ps : List Int) (p : Int) (lvl : Nat) : Prop :=
  (p = -1 ∧ ps = [] ∧ lvl = 0) ∨ ∃ (q e : Nat), p = (q : Int) ∧ q < ps.length ∧ isOpen (dtOf ds q).1 ∧ Dep ps q e ∧ lvl = e + 1

def nodeOf (v : V) (name : List UInt8) : NI := (v.kind, v.b, v.n, v.s, name, 0, 0, ())

theorem okU_empty : okN [] = true := rfl

/-- One node more. -/
theorem tree_add {ds : List Dt} {ps : List Int} (h : TreeOK ds ps) (hl : ps.length < 400) {p : Int} {lvl : Nat} {v : V} {name : List UInt8} (hp : Place ds ps p lvl) (hlv : lvl ≤ 4) (hk : 1 ≤ v.kind ∧ v.kind ≤ 6) (hn : okN name = true)
    (hu : ∀ q : Nat, p = (q : Int) → (dtOf ds q).1 = 6 → ∀ j ∈ K ps p 0, nm ds j ≠ name) :
    Ar.Good ds ps p (nodeOf v name) ∧ TreeOK (ds ++ [kept (nodeOf v name) (kindP ds p)]) (ps ++ [p]) ∧ nm (ds ++ [kept (nodeOf v name) (kindP ds p)]) ps.length = (if kindP ds p = 6 then name else []) ∧
      (dtOf (ds ++ [kept (nodeOf v name) (kindP ds p)]) ps.length).1 = v.kind ∧ Dep (ps ++ [p]) ps.length lvl ∧ (∀ q : Nat, q < ps.length → K (ps ++ [p]) (q : Int) 0 = K ps (q : Int) 0 ++ if (q : Int) = p then [ps.length] else []) ∧ K (ps ++ [p]) (ps.length : Int) 0 = [] := by
  have hg : Ar.Good ds ps p (nodeOf v name) := by
    refine ⟨hk, ?_⟩
    rcases hp with ⟨h1, h2, _⟩ | ⟨q, e, h1, h2, h3, _, _⟩
    · exact .inl ⟨h1, by rw [h2]; rfl⟩
    · exact .inr ⟨by omega, by omega, by rw [h1, Int.toNat_natCast]; exact h3⟩
  have hok := ok_good h.ok hl hg
  have hlen := h.ok.len
  obtain ⟨dn, hdn⟩ : ∃ dn, kept (nodeOf v name) (kindP ds p) = dn := ⟨_, rfl⟩
  have hd5 : dn.2.2.2.2 = (if kindP ds p = 6 then name else []) := by rw [← hdn]; rfl
  have hd1 : dn.1 = v.kind := by rw [← hdn]; rfl
  rw [hdn] at hok ⊢
  have e1 : dtOf (ds ++ [dn]) ps.length = dn := by rw [← hlen]; simp [dtOf, List.getD]
  have e2 : parOf (ps ++ [p]) ps.length = p := by simp [parOf, List.getD]
  have hdp : Dep (ps ++ [p]) ps.length lvl := by
    rcases hp with ⟨h1, h2, h3⟩ | ⟨q, e, h1, h2, h3, h4, h5⟩
    · rw [h3]; exact .root (by rw [e2, h1])
    · rw [h5]; exact .step (by rw [e2, h1]) (h4.app h.ok h2)
  have hlt : ∀ {q : Nat}, p = (q : Int) → q < ps.length := by
    intro q hq
    rcases hp with ⟨h1, _, _⟩ | ⟨q', e, h1, h2, _⟩ <;> omega
  have hkp : ∀ {q : Nat}, p = (q : Int) → kindP ds p = (dtOf ds q).1 := by
    intro q hq
    unfold kindP
    rw [if_pos (by omega), hq, Int.toNat_natCast]
  have hout : K (ps ++ [p]) (ps.length : Int) 0 = [] := by
    rw [List.eq_nil_iff_forall_not_mem]
    intro j hj
    obtain ⟨_, h1⟩ := mem_K'.1 hj
    have hjl := (List.getElem?_eq_some_iff.1 h1).1
    rcases hok.par _ _ h1 with ⟨_, h2⟩ | ⟨_, h2⟩
    · omega
    · simp at hjl; omega
  refine ⟨hg, ⟨hok, ?_, ?_, ?_, ?_⟩, ?_, ?_, hdp, ?_, hout⟩
  · intro j q hj hq
    by_cases hjl : j < ps.length
    · rw [parOf_app hjl] at hq
      have hql : q < ps.length := by
        rcases parOf_range h.ok hjl with ⟨_, h1⟩ | ⟨q', h1, h2⟩
        · rw [h1] at hq; omega
        · rw [h1] at hq; omega
      rw [dtOf_app (by omega)]
      exact h.opn j q hjl hq
    · obtain rfl : j = ps.length := by simp at hj; omega
      rw [e2] at hq
      rw [dtOf_app (by have := hlt hq; omega)]
      rcases hp with ⟨h1, _, _⟩ | ⟨q', e, h1, h2, h3, _⟩
      · omega
      · have : q = q' := by omega
        rw [this]; exact h3
  · have key : ∀ (j q : Nat), j < ps.length → parOf ps j = (q : Int) → p = (q : Int) → (dtOf ds q).1 = 6 → nm ds j ≠ dn.2.2.2.2 := by
      intro j q hj h1 h2 h6
      rw [hd5, if_pos (by rw [hkp h2, h6])]
      refine hu q h2 h6 j (mem_K'.2 ⟨Nat.zero_le _, ?_⟩)
      rw [parOf_lt hj, h1, h2]
    intro j k q hj hkk hne h1 h2 h6
    have hj' : j < ps.length + 1 := by simpa using hj
    have hk' : k < ps.length + 1 := by simpa using hkk
    by_cases hjl : j < ps.length
    · rw [parOf_app hjl] at h1
      have hql : q < ps.length := by
        rcases parOf_range h.ok hjl with ⟨_, h3⟩ | ⟨q', h3, h4⟩
        · rw [h3] at h1; omega
        · rw [h3] at h1; omega
      rw [dtOf_app (by omega)] at h6
      by_cases hkl : k < ps.length
      · rw [parOf_app hkl] at h2
        rw [nm_app (by omega), nm_app (by omega)]
        exact h.uni j k q hjl hkl hne h1 h2 h6
      · obtain rfl : k = ps.length := by omega
        rw [e2] at h2
        rw [nm_app (by omega)]
        show nm ds j ≠ (dtOf _ _).2.2.2.2
        rw [e1]
        exact key j q hjl h1 h2 h6
    · obtain rfl : j = ps.length := by omega
      have hkl : k < ps.length := by omega
      rw [e2] at h1
      rw [parOf_app hkl] at h2
      have hql := hlt h1
      rw [dtOf_app (by omega)] at h6
      rw [nm_app (show k < ds.length by omega)]
      show (dtOf _ _).2.2.2.2 ≠ nm ds k
      rw [e1]
      exact fun e => key k q hkl h2 h1 h6 e.symm
  · intro j hj
    by_cases hjl : j < ps.length
    · rw [nm_app (by omega)]; exact h.val j hjl
    · obtain rfl : j = ps.length := by simp at hj; omega
      show okN (dtOf _ _).2.2.2.2 = true
      rw [e1, hd5]
      split
      · exact hn
      · rfl
  · intro j hj
    by_cases hjl : j < ps.length
    · obtain ⟨d, h1, h2⟩ := h.dep j hjl
      exact ⟨d, h1, h2.app h.ok hjl⟩
    · obtain rfl : j = ps.length := by simp at hj; omega
      exact ⟨lvl, hlv, hdp⟩
  · show (dtOf _ _).2.2.2.2 = _
    rw [e1, hd5]
  · rw [e1, hd1]
  · intro q hq
    rw [K_append (Nat.zero_le _)]
    congr 1
    by_cases e : p = (q : Int)
    · rw [if_pos e, if_pos e.symm]
    · rw [if_neg e, if_neg (fun h => e h.symm)]

structure Put (ds : List Dt) (ps : List Int) (p : Int) (name : List UInt8) (sz : Nat) (ds' : List Dt) (ps' : List Int) : Prop where
  tree : TreeOK ds' ps'
  len : ps'.length = ps.length + sz
  ext : ∃ a b, ds' = ds ++ a ∧ ps' = ps ++ b
  kids : ∀ q : Nat, q < ps.length → K ps' (q : Int) 0 = K ps (q : Int) 0 ++ if (q : Int) = p then [ps.length] else []
  name : nm ds' ps.length = if kindP ds p = 6 then name else []

theorem put_loop {d n : Nat} {fuel : Nat} (self1 : List NodeI × Unit → Int → List UInt8 → V → Option (List NodeI × Unit)) (self2 : RefA → Int → List UInt8 → V → Option RefA)
    (hs : ∀ (v : V) (ds : List Dt) (ps : List Int) (p : Int) (name : List UInt8) (lvl : Nat), GV d v → TreeOK ds ps → Place ds ps p lvl → lvl + d ≤ 5 → okN name = true → (∀ q : Nat, p = (q : Int) → (dtOf ds q).1 = 6 → ∀ j ∈ K ps p 0, nm ds j ≠ name) → ps.length + vsz d v ≤ 400 →
      ∃ ds' ps', self1 (build ds ps, ()) p name v = some (build ds' ps', ()) ∧ self2 (rbuild ds ps) p name v = some (rbuild ds' ps') ∧ Put ds ps p name (vsz d v) ds' ps')
    (at' lvl : Nat) (x0 : Int) (x1 : Bool) (x2 : Int) (x3 : List UInt8) (names : List (List UInt8)) (kids : List V) (hk4 : kids.length ≤ 4) (hn4 : names.length ≤ 4) (hx0 : kids ≠ [] → x0 = 5 ∨ x0 = 6)
    (h6 : x0 = 6 → names.length = kids.length ∧ names.Nodup ∧ ∀ x ∈ names, okN x = true) (h5 : x0 = 5 → names = []) (hg : ∀ k ∈ kids, GV d k) (hlvl : lvl + 1 + d ≤ 5) :
    ∀ (r : List V) (i m : Nat) (ds : List Dt) (ps : List Int), kids.drop i = r → i ≤ kids.length → r.length + 1 ≤ m → TreeOK ds ps → at' < ps.length → (dtOf ds at').1 = x0 → Dep ps at' lvl → (x0 = 6 → (K ps (at' : Int) 0).map (nm ds) = names.take i) → ps.length + (r.map (vsz d)).sum ≤ 400 →
      ∃ ds' ps', F43l0 self1 n m (at' : Int) (i : Int) x0 x1 x2 x3 names kids (build ds ps) = some (build ds' ps', ()) ∧ F44l0 self2 n m (at' : Int) (i : Int) x0 x1 x2 x3 names kids (rbuild ds ps).1 (rbuild ds ps).2.1 (rbuild ds ps).2.2.1 = some (rbuild ds' ps') ∧
        TreeOK ds' ps' ∧ ps'.length = ps.length + (r.map (vsz d)).sum ∧ (∃ a b, ds' = ds ++ a ∧ ps' = ps ++ b) ∧ (∀ q : Nat, q < ps.length → q ≠ at' → K ps' (q : Int) 0 = K ps (q : Int) 0) := by
  intro r
  induction r with
  | nil =>
    intro i m ds ps hr hi hm ht ha hk hd hnm hl
    obtain ⟨m, rfl⟩ : ∃ j, m = j + 1 := ⟨m - 1, by simp at hm; omega⟩
    have hik : kids.length ≤ i := by have := congrArg List.length hr; simp at this; omega
    have hge : decide ((i : Int) < ((kids.length : Nat) : Int)) = false := decide_eq_false (by omega)
    refine ⟨ds, ps, ?_, ?_, ht, by simp, ⟨[], [], by simp, by simp⟩, fun _ _ _ => rfl⟩
    · rw [F43l0, F43l0F, hge]; rfl
    · rw [F44l0, F44l0F, hge]; rfl
  | cons v r ih =>
    intro i m ds ps hr hi hm ht ha hk hd hnm hl
    obtain ⟨m, rfl⟩ : ∃ j, m = j + 1 := ⟨m - 1, by simp at hm; omega⟩
    have hlr := congrArg List.length hr
    simp only [List.length_drop, List.length_cons] at hlr
    have hik : i < kids.length := by omega
    have hkv : kids.getD i (Ty.dflt .value) = v := by
      have : kids[i]? = some v := by
        have h0 : (kids.drop i)[0]? = some v := by rw [hr]; rfl
        rwa [List.getElem?_drop, Nat.add_zero] at h0
      rw [List.getD_eq_getElem?_getD, this]; rfl
    have hkm : v ∈ kids := List.mem_of_mem_drop (by rw [hr]; simp)
    have hx := hx0 (by intro e; rw [e] at hik; simp at hik)
    have hlt : decide ((i : Int) < ((kids.length : Nat) : Int)) = true := decide_eq_true (by omega)
    have hik2 : inB (i : Int) kids.length = true := by simp [inB]; omega
    have hw : IntKind.wrap .i64 ((i : Int) + 1) = ((i + 1 : Nat) : Int) := by rw [wrap64 (by omega) (by omega)]; simp
    have hr1 : kids.drop (i + 1) = r := by rw [← List.drop_drop, hr]; rfl
    simp only [List.map_cons, List.sum_cons] at hl
    have hopen : isOpen (dtOf ds at').1 := by rw [hk]; exact hx
    have hpl : Place ds ps (at' : Int) (lvl + 1) := .inr ⟨at', lvl, rfl, ha, hopen, hd, rfl⟩
    -- what it is called
    obtain ⟨name, hname1, hname2, hname3, hname4⟩ : ∃ name : List UInt8, okN name = true ∧ (x0 = 6 → names[i]? = some name) ∧ (x0 = 6 → names.getD i (Ty.dflt .str) = name ∧ i < names.length) ∧ (x0 = 5 → name = [] ∧ ¬ i < names.length) := by
      rcases hx with h | h
      · refine ⟨[], rfl, fun h' => by omega, fun h' => by omega, fun _ => ⟨rfl, by rw [h5 h]; simp⟩⟩
      · obtain ⟨a, b, c⟩ := h6 h
        have hin : i < names.length := by omega
        refine ⟨names[i], c _ (List.getElem_mem hin), fun _ => List.getElem?_eq_getElem hin, fun _ => ⟨by rw [List.getD_eq_getElem?_getD, List.getElem?_eq_getElem hin]; rfl, hin⟩, fun h' => by omega⟩
    have huniq : ∀ q : Nat, (at' : Int) = (q : Int) → (dtOf ds q).1 = 6 → ∀ j ∈ K ps (at' : Int) 0, nm ds j ≠ name := by
      intro q hq hq6 j hj e
      have hqa : q = at' := by omega
      rw [hqa, hk] at hq6
      obtain ⟨_, b, _⟩ := h6 hq6
      have hmem : name ∈ names.take i := by rw [← hnm hq6, ← e]; exact List.mem_map_of_mem hj
      have hin := (hname3 hq6).2
      have hnd : (names.take i ++ names.drop i).Nodup := by rw [List.take_append_drop]; exact b
      have hdis := (List.nodup_append.1 hnd).2.2
      have hm2 : name ∈ names.drop i := by
        rw [List.mem_iff_getElem?]
        exact ⟨0, by rw [List.getElem?_drop, Nat.add_zero]; exact hname2 hq6⟩
      exact hdis name hmem name hm2 rfl
    obtain ⟨ds1, ps1, e1, e2, hput⟩ := hs v ds ps (at' : Int) name (lvl + 1) (hg v hkm) ht hpl (by omega) hname1 huniq (by omega)
    obtain ⟨a, b, rfl, rfl⟩ := hput.ext
    have hlen := ht.ok.len
    have hk1 := hput.kids at' ha
    rw [if_pos rfl] at hk1
    have hkp : kindP ds (at' : Int) = x0 := by unfold kindP; rw [if_pos (by omega), Int.toNat_natCast, hk]
    obtain ⟨ds2, ps2, f1, f2, f3, f4, f5, f6⟩ := ih (i + 1) m (ds ++ a) (ps ++ b) hr1 (by omega) (by simp at hm; omega) hput.tree (by rw [List.length_append]; omega) (by rw [dtOf_app (by omega)]; exact hk) (hd.app ht.ok ha) (fun h => by
        rw [hk1, List.map_append]
        have e0 : (K ps (at' : Int) 0).map (nm (ds ++ a)) = (K ps (at' : Int) 0).map (nm ds) := by
          apply List.map_congr_left
          intro j hj
          obtain ⟨_, hj2⟩ := mem_K'.1 hj
          have := (List.getElem?_eq_some_iff.1 hj2).1
          exact nm_app (by omega)
        rw [e0, hnm h, List.map_singleton, hput.name, hkp, if_pos h, List.take_add_one, hname2 h]; rfl) (by rw [hput.len]; omega)
    refine ⟨ds2, ps2, ?_, ?_, f3, by rw [f4, hput.len]; simp only [List.map_cons, List.sum_cons]; omega, ?_, ?_⟩
    · rw [F43l0, F43l0F, hlt]
      simp only [cond_true, Int.toNat_natCast, hkv, hik2, hw]
      rcases hx with h | h
      · obtain ⟨q1, q2⟩ := hname4 h
        rw [decide_eq_false (by omega), cond_false]
        rw [q1] at e1
        rw [e1]
        exact f1
      · obtain ⟨q1, q2⟩ := hname3 h
        have hin : inB (i : Int) names.length = true := by simp [inB]; omega
        rw [decide_eq_true (by omega), hin, q1, e1]
        exact f1
    · rw [F44l0, F44l0F, hlt]
      simp only [cond_true, Int.toNat_natCast, hkv, hik2, hw]
      have e2' : self2 ((rbuild ds ps).1, (rbuild ds ps).2.1, (rbuild ds ps).2.2.1, ()) (at' : Int) name v = some (rbuild (ds ++ a) (ps ++ b)) := e2
      rcases hx with h | h
      · obtain ⟨q1, q2⟩ := hname4 h
        rw [decide_eq_false (by omega), cond_false]
        rw [q1] at e2'
        rw [e2']
        exact f2
      · obtain ⟨q1, q2⟩ := hname3 h
        have hin : inB (i : Int) names.length = true := by simp [inB]; omega
        rw [decide_eq_true (by omega), hin, q1, e2']
        exact f2
    · obtain ⟨a2, b2, g1, g2⟩ := f5
      exact ⟨a ++ a2, b ++ b2, by rw [g1, List.append_assoc], by rw [g2, List.append_assoc]⟩
    · intro q hq hne
      rw [f6 q (by rw [List.length_append]; omega) hne, hput.kids q hq, if_neg (by omega), List.append_nil]

/-- A value is put into an arena. -/
theorem put_good : ∀ (d n : Nat) (v : V) (ds : List Dt) (ps : List Int) (p : Int) (name : List UInt8) (lvl : Nat), 10 + d ≤ n → GV d v → TreeOK ds ps → Place ds ps p lvl → lvl + d ≤ 5 → okN name = true →
    (∀ q : Nat, p = (q : Int) → (dtOf ds q).1 = 6 → ∀ j ∈ K ps p 0, nm ds j ≠ name) → ps.length + vsz d v ≤ 400 →
    ∃ ds' ps', F43 n (build ds ps, ()) p name v = some (build ds' ps', ()) ∧ F44 n (rbuild ds ps) p name v = some (rbuild ds' ps') ∧ Put ds ps p name (vsz d v) ds' ps' := by
  intro d
  induction d with
  | zero => intro n v ds ps p name lvl _ hg; exact hg.elim
  | succ d ih =>
    intro n v ds ps p name lvl hn hg ht hp hlv hnm hu hl
    obtain ⟨n, rfl⟩ : ∃ j, n = j + 1 := ⟨n - 1, by omega⟩
    obtain ⟨g1, g2, g3, g4, g5, g6, g7⟩ := hg
    have hvs : vsz (d + 1) v = 1 + (v.kids.map (vsz d)).sum := rfl
    rw [hvs] at hl ⊢
    obtain ⟨a1, a2, a3, a4, a5, a6, a7⟩ := tree_add (name := name) ht (by omega) hp (by omega) g1 hnm hu
    obtain ⟨s1, s2⟩ := F11_good n ht.ok (by omega) a1
    generalize kept (nodeOf v name) (kindP ds p) = dn at *
    have hps1 : (ps ++ [p]).length = ps.length + 1 := by simp
    obtain ⟨ds', ps', f1, f2, f3, f4, f5, f6⟩ := put_loop (d := d) (n := n) (fuel := n) (F43 n) (F44 n) (fun v ds ps p name lvl q1 q2 q3 q4 q5 q6 q7 => ih n v ds ps p name lvl (by omega) q1 q2 q3 q4 q5 q6 q7)
      ps.length lvl v.kind v.b v.n v.s v.names v.kids g3 g4 g2 g5 g6 g7 (by omega) v.kids 0 n (ds ++ [dn]) (ps ++ [p]) (by simp) (by omega) (by omega) a2 (by simp) a4 a5 (fun h => by rw [a7]; simp) (by rw [hps1]; omega)
    refine ⟨ds', ps', ?_, ?_, f3, by rw [f4, hps1]; omega, ?_, ?_, ?_⟩
    · show F43B (F43 n) n (build ds ps, ()) p name v = _
      unfold F43B
      have s1' : F60 n (build ds ps, ()) p (v.kind, v.b, v.n, v.s, name, 0, 0, ()) = some ((build (ds ++ [dn]) (ps ++ [p]), ()), (ps.length : Int)) := s1
      rw [s1']
      exact f1
    · show F44B (F44 n) n (rbuild ds ps) p name v = _
      unfold F44B
      have s2' : F61 n (rbuild ds ps) p (v.kind, v.b, v.n, v.s, name, 0, 0, ()) = some (rbuild (ds ++ [dn]) (ps ++ [p]), (ps.length : Int)) := s2
      rw [s2']
      exact f2
    · obtain ⟨a, b, h1, h2⟩ := f5
      exact ⟨dn :: a, p :: b, by rw [h1]; simp, by rw [h2]; simp⟩
    · intro q hq
      rw [f6 q (by rw [hps1]; omega) (by omega), a6 q hq]
    · obtain ⟨a, b, h1, h2⟩ := f5
      have hlen := ht.ok.len
      rw [h1, nm_app (by simp; omega), a3]

theorem TreeOK.empty : TreeOK [] [] := ⟨⟨rfl, by simp, fun i q h => by simp at h, fun i d h => by simp at h⟩, fun j q h => by simp at h, fun j k q h => by simp at h, fun j h => by simp at h, fun j h => by simp at h⟩

/-- A value's arenas. -/
theorem make_good {v : V} (h : GV 5 v) (n : Nat) (hn : 20 ≤ n) : ∃ ds ps, F25 n v = some (A1 ds ps) ∧ F26 n v = some (A2 ds ps) ∧ TreeOK ds ps ∧ 0 < ps.length := by
  have hs := h.size
  rw [show (4 : Nat) ^ 5 = 1024 by decide] at hs
  have hpos : 0 < vsz 5 v := by unfold vsz; omega
  obtain ⟨ds, ps, h1, h2, h3⟩ := put_good 5 n v [] [] (-1) [] 0 (by omega) h TreeOK.empty (.inl ⟨rfl, rfl, rfl⟩) (by omega) rfl (fun q hq => by omega) (by simp; omega)
  refine ⟨ds, ps, ?_, ?_, h3.tree, by rw [h3.len]; simp; omega⟩
  · unfold F25
    have h42 : F42 n = some ([], ()) := rfl
    rw [h42]
    have h1' : F43 n ([], ()) (-1) [] (V.mk v.kind v.b v.n v.s v.names v.kids) = some (build ds ps, ()) := by rw [V.eta]; exact h1
    simp only [h1']
  · unfold F26
    have h2' : F44 n ([], [], [], ()) (-1) [] (V.mk v.kind v.b v.n v.s v.names v.kids) = some (rbuild ds ps) := by rw [V.eta]; exact h2
    simp only [h2']

end Go.Proofs.YtaeamjhgfhcjdaaDoor.Ab.Pt

/- Where tokens lead: Eval as the program does it and as the document says it; the law PointerEvals. -/
namespace Go.Proofs.YtaeamjhgfhcjdaaDoor.Ab.Pt
open Go Go.RowKit Go.Proofs.YtaeamjhgfhcjdaaDoor.Ab Go.Proofs.YtaeamjhgfhcjdaaDoor.Ab.Ar
set_option maxRecDepth 100000
set_option linter.unusedVariables false
set_option linter.unusedSimpArgs false

section
variable {ds : List Dt} {ps : List Int}

/-- Where one token leads. -/
def stepS (ds : List Dt) (ps : List Int) (i : Nat) (s : List UInt8) : Int :=
  if (dtOf ds i).1 = 6 then findN ds ps s (K ps (i : Int) 0)
  else if (dtOf ds i).1 = 5 then (if (idxS s).2 = true ∧ (idxS s).1 < (((K ps (i : Int) 0).length : Nat) : Int) then (ints (K ps (i : Int) 0)).getD (idxS s).1.toNat 0 else -1)
  else -1

def evalS (ds : List Dt) (ps : List Int) : Nat → List (List UInt8) → Nat → Int × Int
  | i, [], c => ((i : Int), (c : Int))
  | i, s :: r, c => if stepS ds ps i s < 0 then (-1, (c : Int)) else evalS ds ps (stepS ds ps i s).toNat r (c + 1)

theorem mem_ints {l : List Nat} {k : Int} (h : k ∈ ints l) : ∃ j : Nat, k = (j : Int) ∧ j ∈ l := by
  obtain ⟨j, hj, rfl⟩ := List.mem_map.1 h
  exact ⟨j, rfl, hj⟩

theorem getD_mem' {α : Type} {l : List α} {i : Nat} (h : i < l.length) (d : α) : l.getD i d ∈ l := by
  rw [List.getD_eq_getElem?_getD, List.getElem?_eq_getElem h]; exact List.getElem_mem h

theorem hit_eq {j : Nat} (h : j < ps.length) (name : List UInt8) : hit (build ds ps) name (j : Int) = (nm ds j == name) := by
  unfold hit
  rw [Int.toNat_natCast, build_getD h]
  rfl

/-- It leads nowhere, or to a kid. -/
theorem stepS_kid (i : Nat) (s : List UInt8) : stepS ds ps i s < 0 ∨ ∃ j : Nat, stepS ds ps i s = (j : Int) ∧ j ∈ K ps (i : Int) 0 := by
  unfold stepS
  split
  · unfold findN
    cases hf : (ints (K ps (i : Int) 0)).find? (hit (build ds ps) s) with
    | none => exact .inl (by decide)
    | some k =>
      obtain ⟨j, h1, h2⟩ := mem_ints (List.mem_of_find?_eq_some hf)
      exact .inr ⟨j, h1, h2⟩
  · split
    · split
      · rename_i h
        rcases idx_back s with ⟨e, _⟩ | ⟨_, e, _, _⟩
        · rw [e] at h; exact absurd h.1 (by simp)
        · have hlt : (idxS s).1.toNat < (ints (K ps (i : Int) 0)).length := by simp [ints]; omega
          obtain ⟨j, h1, h2⟩ := mem_ints (getD_mem' hlt 0)
          exact .inr ⟨j, h1, h2⟩
      · exact .inl (by decide)
    · exact .inl (by decide)

theorem kid_lt {i j : Nat} (h : j ∈ K ps (i : Int) 0) : j < ps.length ∧ parOf ps j = (i : Int) := by
  obtain ⟨_, h2⟩ := mem_K'.1 h
  have hl := (List.getElem?_eq_some_iff.1 h2).1
  rw [parOf_lt hl] at h2
  exact ⟨hl, by simpa using h2⟩

theorem node_kind (i : Nat) : (node ds ps i).1.1 = (dtOf ds i).1 := rfl

theorem ints_len (l : List Nat) : (ints l).length = l.length := by simp [ints]

theorem F28_loop (n : Nat) (hn : 1000 ≤ n) (h : Ok ds ps) (t1 : List (List UInt8)) (hl : t1.length ≤ 1000000) : ∀ (r pre : List (List UInt8)) (i m : Nat), t1 = pre ++ r → i < ps.length → r.length + 1 ≤ m →
    F28l0 n m (A1 ds ps) t1 (i : Int) t1 ((t1.length : Nat) : Int) (pre.length : Int) = some (evalS ds ps i r pre.length)
  | [], pre, i, m, hp, hi, hm => by
    obtain ⟨m, rfl⟩ : ∃ j, m = j + 1 := ⟨m - 1, by simp at hm; omega⟩
    have hge : decide ((pre.length : Int) < ((t1.length : Nat) : Int)) = false := by rw [hp]; exact ge_pre pre
    rw [F28l0, F28l0F, hge, cond_false, evalS, hp]
    simp
  | s :: r, pre, i, m, hp, hi, hm => by
    obtain ⟨m, rfl⟩ : ∃ j, m = j + 1 := ⟨m - 1, by simp at hm; omega⟩
    have hpl : pre.length < 1000000 := by rw [hp] at hl; simp at hl; omega
    have hlt : decide ((pre.length : Int) < ((t1.length : Nat) : Int)) = true := by rw [hp]; exact lt_pre pre s r
    have hin : inB (pre.length : Int) t1.length = true := by rw [hp]; exact inB_L pre s r
    have hg : t1.getD (Int.toNat (pre.length : Int)) (Ty.dflt .str) = s := by rw [hp]; exact getD_pre pre s _ r
    have ih := fun j (hj : j < ps.length) => F28_loop n hn h t1 hl r (pre ++ [s]) j m (by rw [hp]; simp) hj (by simp at hm; omega)
    have hl1 : (pre ++ [s]).length = pre.length + 1 := by simp
    rw [hl1] at ih
    rw [F28l0, F28l0F, hlt, hin, (node_in n hi).1, hg, wrap_pre pre s (by omega), hl1]
    simp only [cond_true, node_kind]
    rw [(find_in n h hn hi s).1, Ar.kids_in n h hn hi, F15_eq n (by omega)]
    rw [evalS]
    -- what comes of a step
    have step : ∀ t : Int, (t < 0 ∨ ∃ j : Nat, t = (j : Int) ∧ j ∈ K ps (i : Int) 0) →
        (bif decide (t < 0) then some (-1, (pre.length : Int)) else F28l0 n m (A1 ds ps) t1 t t1 ((t1.length : Nat) : Int) ((pre.length + 1 : Nat) : Int)) =
        some (if t < 0 then (-1, (pre.length : Int)) else evalS ds ps t.toNat r (pre.length + 1)) := by
      intro t ht
      rcases ht with h0 | ⟨j, rfl, hj⟩
      · rw [decide_eq_true h0, if_pos h0]; rfl
      · rw [decide_eq_false (by omega), if_neg (by omega), cond_false, Int.toNat_natCast]
        exact ih j (kid_lt hj).1
    have hs := stepS_kid (ds := ds) (ps := ps) i s
    by_cases h6 : (dtOf ds i).1 = 6
    · have e : stepS ds ps i s = findN ds ps s (K ps (i : Int) 0) := by unfold stepS; rw [if_pos h6]
      rw [e] at hs
      rw [h6, e, if_pos rfl, show ((6 : Int) == 6) = true from rfl, cond_true]
      exact step _ hs
    · have e6 : ((dtOf ds i).1 == 6) = false := by simpa using h6
      rw [e6, cond_false]
      by_cases h5 : (dtOf ds i).1 = 5
      · rw [h5, show ((5 : Int) == 5) = true from rfl, cond_true]
        have e : stepS ds ps i s = if (idxS s).2 = true ∧ (idxS s).1 < (((K ps (i : Int) 0).length : Nat) : Int) then (ints (K ps (i : Int) 0)).getD (idxS s).1.toNat 0 else -1 := by
          unfold stepS; rw [if_neg h6, if_pos h5]
        rw [e] at hs ⊢
        have none := step (-1) (.inl (by decide))
        rcases idx_back s with ⟨e1, _⟩ | ⟨e1, e2, e3, _⟩
        · have hc : ¬ ((idxS s).2 = true ∧ (idxS s).1 < (((K ps (i : Int) 0).length : Nat) : Int)) := by rw [e1]; simp
          rw [if_neg hc]
          simp only [e1, cond_false]
          exact none
        · by_cases hk : (idxS s).1 < (((K ps (i : Int) 0).length : Nat) : Int)
          · have hc : (idxS s).2 = true ∧ (idxS s).1 < (((K ps (i : Int) 0).length : Nat) : Int) := ⟨e1, hk⟩
            rw [if_pos hc] at hs ⊢
            have hk' : (idxS s).1 < (((ints (K ps (i : Int) 0)).length : Nat) : Int) := by rw [ints_len]; exact hk
            have hkin : inB (idxS s).1 (ints (K ps (i : Int) 0)).length = true := by simp only [inB, Bool.and_eq_true, decide_eq_true_eq]; exact ⟨e2, hk'⟩
            simp only [e1, decide_eq_true hk', hkin, cond_true]
            exact step _ hs
          · have hc : ¬ ((idxS s).2 = true ∧ (idxS s).1 < (((K ps (i : Int) 0).length : Nat) : Int)) := fun hh => hk hh.2
            rw [if_neg hc]
            have hk' : ¬ (idxS s).1 < (((ints (K ps (i : Int) 0)).length : Nat) : Int) := by rw [ints_len]; exact hk
            simp only [e1, decide_eq_false hk', cond_true, cond_false]
            exact none
      · have e5 : ((dtOf ds i).1 == 5) = false := by simpa using h5
        have e : stepS ds ps i s = -1 := by unfold stepS; rw [if_neg h6, if_neg h5]
        rw [e5, cond_false, e]
        exact step (-1) (.inl (by decide))

theorem F29_loop (n : Nat) (hn : 1000 ≤ n) (h : Ok ds ps) (t1 : List (List UInt8)) (hl : t1.length ≤ 1000000) : ∀ (r pre : List (List UInt8)) (i m : Nat), t1 = pre ++ r → i < ps.length → r.length + 1 ≤ m →
    F29l0 n m (A2 ds ps) t1 (i : Int) (pre.length : Int) = some (evalS ds ps i r pre.length)
  | [], pre, i, m, hp, hi, hm => by
    obtain ⟨m, rfl⟩ : ∃ j, m = j + 1 := ⟨m - 1, by simp at hm; omega⟩
    have hge : decide ((pre.length : Int) < ((t1.length : Nat) : Int)) = false := by rw [hp]; exact ge_pre pre
    rw [F29l0, F29l0F, hge, cond_false, evalS, hp]
    simp
  | s :: r, pre, i, m, hp, hi, hm => by
    obtain ⟨m, rfl⟩ : ∃ j, m = j + 1 := ⟨m - 1, by simp at hm; omega⟩
    have hpl : pre.length < 1000000 := by rw [hp] at hl; simp at hl; omega
    have hlt : decide ((pre.length : Int) < ((t1.length : Nat) : Int)) = true := by rw [hp]; exact lt_pre pre s r
    have hin : inB (pre.length : Int) t1.length = true := by rw [hp]; exact inB_L pre s r
    have hg : t1.getD (Int.toNat (pre.length : Int)) (Ty.dflt .str) = s := by rw [hp]; exact getD_pre pre s _ r
    have ih := fun j (hj : j < ps.length) => F29_loop n hn h t1 hl r (pre ++ [s]) j m (by rw [hp]; simp) hj (by simp at hm; omega)
    have hl1 : (pre ++ [s]).length = pre.length + 1 := by simp
    rw [hl1] at ih
    rw [F29l0, F29l0F, hlt, hin, (node_in n hi).2, hg, wrap_pre pre s (by omega), hl1]
    simp only [cond_true, node_kind]
    rw [(find_in n h hn hi s).2, kids29_in n h hn hi, F16_eq n (by omega)]
    rw [evalS]
    have step : ∀ t : Int, (t < 0 ∨ ∃ j : Nat, t = (j : Int) ∧ j ∈ K ps (i : Int) 0) →
        (bif decide (t < 0) then some (-1, (pre.length : Int)) else F29l0 n m (A2 ds ps) t1 t ((pre.length + 1 : Nat) : Int)) =
        some (if t < 0 then (-1, (pre.length : Int)) else evalS ds ps t.toNat r (pre.length + 1)) := by
      intro t ht
      rcases ht with h0 | ⟨j, rfl, hj⟩
      · rw [decide_eq_true h0, if_pos h0]; rfl
      · rw [decide_eq_false (by omega), if_neg (by omega), cond_false, Int.toNat_natCast]
        exact ih j (kid_lt hj).1
    have hs := stepS_kid (ds := ds) (ps := ps) i s
    by_cases h6 : (dtOf ds i).1 = 6
    · have e : stepS ds ps i s = findN ds ps s (K ps (i : Int) 0) := by unfold stepS; rw [if_pos h6]
      rw [e] at hs
      rw [h6, e, if_pos rfl, show ((6 : Int) == 5) = false from rfl]
      exact step _ hs
    · by_cases h5 : (dtOf ds i).1 = 5
      · have none := step (-1) (.inl (by decide))
        rw [h5, if_neg (by decide), show ((5 : Int) == 5) = true from rfl]
        have e : stepS ds ps i s = if (idxS s).2 = true ∧ (idxS s).1 < (((K ps (i : Int) 0).length : Nat) : Int) then (ints (K ps (i : Int) 0)).getD (idxS s).1.toNat 0 else -1 := by
          unfold stepS; rw [if_neg h6, if_pos h5]
        rw [e] at hs ⊢
        simp only [cond_true]
        rcases idx_back s with ⟨e1, _⟩ | ⟨e1, e2, e3, _⟩
        · have hc : ¬ ((idxS s).2 = true ∧ (idxS s).1 < (((K ps (i : Int) 0).length : Nat) : Int)) := by rw [e1]; simp
          rw [if_neg hc]
          simp only [e1, cond_false]
          exact none
        · by_cases hk : (idxS s).1 < (((K ps (i : Int) 0).length : Nat) : Int)
          · have hc : (idxS s).2 = true ∧ (idxS s).1 < (((K ps (i : Int) 0).length : Nat) : Int) := ⟨e1, hk⟩
            rw [if_pos hc] at hs ⊢
            have hk' : (idxS s).1 < (((ints (K ps (i : Int) 0)).length : Nat) : Int) := by rw [ints_len]; exact hk
            have hkin : inB (idxS s).1 (ints (K ps (i : Int) 0)).length = true := by simp only [inB, Bool.and_eq_true, decide_eq_true_eq]; exact ⟨e2, hk'⟩
            simp only [e1, decide_eq_true hk', hkin, cond_true]
            exact step _ hs
          · have hc : ¬ ((idxS s).2 = true ∧ (idxS s).1 < (((K ps (i : Int) 0).length : Nat) : Int)) := fun hh => hk hh.2
            rw [if_neg hc]
            have hk' : ¬ (idxS s).1 < (((ints (K ps (i : Int) 0)).length : Nat) : Int) := by rw [ints_len]; exact hk
            simp only [e1, decide_eq_false hk', cond_true, cond_false]
            exact none
      · have e5 : ((dtOf ds i).1 == 5) = false := by simpa using h5
        have e : stepS ds ps i s = -1 := by unfold stepS; rw [if_neg h6, if_neg h5]
        rw [e5, e, if_neg h6]
        exact step (-1) (.inl (by decide))

/-- Eval. -/
theorem eval_both (n : Nat) (hn : 1000 ≤ n) (h : Ok ds ps) (hpos : 0 < ps.length) (l : List (List UInt8)) (hl : l.length ≤ 1000000) (hm : l.length + 1 ≤ n) :
    F28 n (A1 ds ps) l = some (evalS ds ps 0 l 0) ∧ F29 n (A2 ds ps) l = some (evalS ds ps 0 l 0) := by
  have e0 : (((ps.length : Nat) : Int) == 0) = false := by rw [beq_eq_false_iff_ne]; omega
  constructor
  · unfold F28
    rw [len_eq]
    simp only [e0, cond_false]
    exact F28_loop n hn h l hl l [] 0 n rfl hpos hm
  · unfold F29
    have e1 : ((((Option.getD (A2 ds ps) (Ty.dflt (.pair (.slice (.pair (.int .i64) (.pair .bool (.pair (.int .i64) (.pair .str (.pair .str (.pair (.int .i64) (.pair (.int .i64) .unit)))))))) (.pair (.slice (.int .i64)) (.pair (.slice (.int .i64)) .unit))))).1).length : Int) == 0) = false := by
      show ((((rbuild ds ps).1.length : Nat) : Int) == 0) = false
      rw [rl1]; exact e0
    rw [show Option.isSome (A2 ds ps) = true from rfl, cond_true, e1, cond_false]
    exact F29_loop n hn h l hl l [] 0 n rfl hpos hm
end


/-! ### How Eval goes -/

section
variable {ds : List Dt} {ps : List Int}

theorem eval_app (i : Nat) (b : List (List UInt8)) : ∀ (a : List (List UInt8)) (i c j : Nat), evalS ds ps i a c = ((j : Int), ((c + a.length : Nat) : Int)) → evalS ds ps i (a ++ b) c = evalS ds ps j b (c + a.length)
  | [], i, c, j, h => by
    simp only [evalS, Prod.mk.injEq] at h
    have : i = j := by omega
    subst this
    rfl
  | s :: a, i, c, j, h => by
    rw [List.cons_append, evalS]
    rw [evalS] at h
    split at h
    · simp only [Prod.mk.injEq] at h; omega
    · rename_i h0
      rw [if_neg h0]
      have e : c + (s :: a).length = c + 1 + a.length := by simp; omega
      rw [e] at h ⊢
      exact eval_app i b a _ _ j h

theorem eval_spec : ∀ (l : List (List UInt8)) (i c : Nat), (∃ j : Nat, evalS ds ps i l c = ((j : Int), ((c + l.length : Nat) : Int))) ∨
    (∃ (a : List (List UInt8)) (s : List UInt8) (b : List (List UInt8)) (j : Nat), l = a ++ s :: b ∧ evalS ds ps i a c = ((j : Int), ((c + a.length : Nat) : Int)) ∧ stepS ds ps j s < 0 ∧ evalS ds ps i l c = (-1, ((c + a.length : Nat) : Int)))
  | [], i, c => .inl ⟨i, by simp [evalS]⟩
  | s :: l, i, c => by
    rw [evalS]
    by_cases h0 : stepS ds ps i s < 0
    · rw [if_pos h0]
      exact .inr ⟨[], s, l, i, rfl, by simp [evalS], h0, by simp⟩
    · rw [if_neg h0]
      have e : ∀ l : List (List UInt8), c + (s :: l).length = c + 1 + l.length := fun l => by simp; omega
      rcases eval_spec l (stepS ds ps i s).toNat (c + 1) with ⟨j, h⟩ | ⟨a, s', b, j, h1, h2, h3, h4⟩
      · exact .inl ⟨j, by rw [e]; exact h⟩
      · refine .inr ⟨s :: a, s', b, j, by rw [h1]; rfl, ?_, h3, by rw [e]; exact h4⟩
        rw [evalS, if_neg h0, e]
        exact h2

theorem eval_lt (h : Ok ds ps) : ∀ (l : List (List UInt8)) (i c j : Nat), i < ps.length → evalS ds ps i l c = ((j : Int), ((c + l.length : Nat) : Int)) → j < ps.length
  | [], i, c, j, hi, he => by
    simp only [evalS, Prod.mk.injEq] at he
    omega
  | s :: l, i, c, j, hi, he => by
    rw [evalS] at he
    split at he
    · simp only [Prod.mk.injEq] at he; omega
    · rename_i h0
      rcases stepS_kid (ds := ds) (ps := ps) i s with h1 | ⟨k, h1, h2⟩
      · omega
      · rw [h1, Int.toNat_natCast] at he
        have e : c + (s :: l).length = c + 1 + l.length := by simp; omega
        rw [e] at he
        exact eval_lt h l k (c + 1) j (kid_lt h2).1 he

/-- One token less leads to the parent. -/
theorem eval_parent {a : List (List UInt8)} {s : List UInt8} {i c r : Nat} (h : evalS ds ps i (a ++ [s]) c = ((r : Int), ((c + (a ++ [s]).length : Nat) : Int))) :
    ∃ j : Nat, evalS ds ps i a c = ((j : Int), ((c + a.length : Nat) : Int)) ∧ parOf ps r = (j : Int) ∧ r < ps.length := by
  rcases eval_spec (ds := ds) (ps := ps) a i c with ⟨j, h1⟩ | ⟨a', s', b, j, h1, h2, h3, h4⟩
  · refine ⟨j, h1, ?_⟩
    rw [eval_app i [s] a i c j h1, evalS] at h
    split at h
    · simp only [Prod.mk.injEq] at h; omega
    · rename_i h0
      rcases stepS_kid (ds := ds) (ps := ps) j s with g1 | ⟨k, g1, g2⟩
      · omega
      · rw [g1, Int.toNat_natCast, evalS] at h
        simp only [Prod.mk.injEq] at h
        have : k = r := by omega
        subst this
        exact ⟨(kid_lt g2).2, (kid_lt g2).1⟩
  · exfalso
    rw [h1, List.append_assoc, eval_app i _ a' i c j h2, List.cons_append, evalS, if_pos h3] at h
    simp only [Prod.mk.injEq] at h
    omega
end

/-! ### The laws -/

theorem F27_ok (n : Nat) (v : Int) : ∃ s, F27 n v = some s := by
  obtain ⟨k, h1, h2, h3⟩ := place (n := n) (v := v) (c := 16) (by omega) (by omega)
  unfold F27
  rw [h1]
  have : inB k 16 = true := by simp [inB]; omega
  simp only [this, Bool.and_true, cond_true]
  exact ⟨_, rfl⟩

theorem F8_loop (n : Nat) (hn : 1000 ≤ n) {ds : List Dt} {ps : List Int} (h : Ok ds ps) (hpos : 0 < ps.length) (t1 : List Int) (hl : t1.length ≤ 8) :
    ∀ (r pre : List Int) (way : List (List UInt8)) (m : Nat), t1 = pre ++ r → way.length = pre.length → r.length + 1 ≤ m → F8l0 n m t1 (A1 ds ps) (A2 ds ps) way (pre.length : Int) = some true
  | [], pre, way, m, hp, hw, hm => by
    obtain ⟨m, rfl⟩ : ∃ j, m = j + 1 := ⟨m - 1, by simp at hm; omega⟩
    have hge : decide ((pre.length : Int) < ((t1.length : Nat) : Int)) = false := by rw [hp]; exact ge_pre pre
    have hwl : way.length ≤ 8 := by rw [hp] at hl; simp at hl; omega
    obtain ⟨e1, e2⟩ := eval_both n hn h hpos way (by omega) (by omega)
    rw [F8l0, F8l0F, hge, e1, e2, awake12]
    simp
  | v :: r, pre, way, m, hp, hw, hm => by
    obtain ⟨m, rfl⟩ : ∃ j, m = j + 1 := ⟨m - 1, by simp at hm; omega⟩
    have hpl : pre.length ≤ 8 := by rw [hp] at hl; simp at hl; omega
    have hlt : decide ((pre.length : Int) < ((t1.length : Nat) : Int)) = true := by rw [hp]; exact lt_pre pre v r
    have hin : inB (pre.length : Int) t1.length = true := by rw [hp]; exact inB_L pre v r
    have hg : t1.getD (Int.toNat (pre.length : Int)) (Ty.dflt (.int .i64)) = v := by rw [hp]; exact getD_pre pre v _ r
    obtain ⟨s, hs⟩ := F27_ok n v
    have hr := room16 (way.length + ([s] : List (List UInt8)).length) (by simp; omega)
    rw [F8l0, F8l0F, hlt, hin, hg, hs, wrap_pre pre v (by omega)]
    simp only [cond_true, hr]
    exact F8_loop n hn h hpos t1 hl r (pre ++ [v]) (way ++ [s]) m (by rw [hp]; simp) (by simp [hw]) (by simp at hm; omega)

theorem evals_pure (n : Nat) (hn : 1000 ≤ n) (v l : List Int) : F8 n v l = some true := by
  obtain ⟨x, h1, h2⟩ := Small_good n (by omega) v
  obtain ⟨ds, ps, h3, h4, h5, h6⟩ := make_good h2 n (by omega)
  unfold F8
  rw [h1]
  simp only [V.eta, h3, h4, Option.isNone_some, cond_false, Bool.not_false, cond_true, awake12]
  by_cases hv : v.length > 60
  · rw [decide_eq_true (by omega)]; rfl
  rw [decide_eq_false (by omega), cond_false]
  by_cases hl : l.length > 8
  · rw [decide_eq_true (by omega)]; rfl
  rw [decide_eq_false (by omega), cond_false]
  exact F8_loop n hn h5.ok h6 l (by omega) l [] [] n rfl rfl (by omega)

theorem pointerEvals_pure (v l : List Int) : F8 1000 v l = some true := evals_pure _ (Nat.le_refl _) v l

theorem longer_way (n : Nat) (hn : 1000 ≤ n) {ds : List Dt} {ps : List Int} (h : Ok ds ps) (hpos : 0 < ps.length) (way : List (List UInt8)) (hw : way.length ≤ 8) (t1 : List Int) (m : Nat) :
    F10l0 n (m + 1) t1 (A1 ds ps) way (t1.length : Int) = some true := by
  have hge : decide ((t1.length : Int) < ((t1.length : Nat) : Int)) = false := by simp
  have ev := fun (l : List (List UInt8)) (hl : l.length ≤ 8) => (eval_both n hn h hpos l (by omega) (by omega)).1
  rw [F10l0, F10l0F, hge, ev way hw]
  rcases eval_spec (ds := ds) (ps := ps) way 0 0 with ⟨j, h1⟩ | ⟨a, s, b, j, h1, h2, h3, h4⟩
  · rw [h1]
    simp only [Nat.zero_add, cond_false]
    have c1 : decide (((way.length : Nat) : Int) < 0) = false := decide_eq_false (by omega)
    have c2 : decide (((way.length : Nat) : Int) > ((way.length : Nat) : Int)) = false := decide_eq_false (by omega)
    have c3 : decide ((j : Int) ≥ 0) = true := by simp
    have c4 : decide ((j : Int) < 0) = false := by simp
    simp only [c1, c2, c3, c4, beq_self_eq_true, Bool.not_true, cond_false]
    by_cases h0 : way = []
    · subst h0
      simp only [evalS, Prod.mk.injEq] at h1
      have : j = 0 := by omega
      subst this
      simp [awake12]
    · have hpl := List.length_pos_iff.2 h0
      have c5 : (((way.length : Nat) : Int) == 0) = false := by rw [beq_eq_false_iff_ne]; omega
      obtain ⟨a, s, rfl⟩ : ∃ a s, way = a ++ [s] := ⟨way.dropLast, way.getLast h0, (List.dropLast_concat_getLast h0).symm⟩
      obtain ⟨k, e1, e2, e3⟩ := eval_parent h1
      rw [List.length_append, List.length_singleton] at hw
      have hwr : IntKind.wrap .i64 ((((a ++ [s]).length : Nat) : Int) - 1) = (a.length : Int) := by
        rw [List.length_append, List.length_singleton, wrap64 (by omega) (by omega)]; omega
      have hcut : (cutB 0 (a.length : Int) (a ++ [s]).length && true) = true := by simp [cutB]; omega
      have ht : (((a ++ [s]).drop (Int.toNat 0)).take (Int.toNat (a.length : Int) - Int.toNat 0)) = a := by simp
      rw [c5, hwr, hcut, ht, ev a (by omega), e1, par_in n e3, e2]
      simp [awake12]
  · have hl1 := congrArg List.length h1
    simp only [List.length_append, List.length_cons] at hl1
    rw [h4]
    simp only [Nat.zero_add, cond_false]
    rw [Nat.zero_add] at h2
    have c1 : decide (((a.length : Nat) : Int) < 0) = false := decide_eq_false (by omega)
    have c2 : decide (((a.length : Nat) : Int) > ((way.length : Nat) : Int)) = false := decide_eq_false (by omega)
    have c6 : (((a.length : Nat) : Int) == ((way.length : Nat) : Int)) = false := by rw [beq_eq_false_iff_ne]; omega
    have hcut : (cutB 0 (a.length : Int) way.length && true) = true := by simp [cutB]; omega
    have ht : (((way).drop (Int.toNat 0)).take (Int.toNat (a.length : Int) - Int.toNat 0)) = a := by rw [h1]; simp
    have hw1 : IntKind.wrap .i64 (((a.length : Nat) : Int) + 1) = ((a.length + 1 : Nat) : Int) := by rw [wrap64 (by omega) (by omega)]; simp
    have hcut1 : (cutB 0 ((a.length + 1 : Nat) : Int) way.length && true) = true := by simp [cutB]; omega
    have ht1 : (((way).drop (Int.toNat 0)).take (Int.toNat ((a.length + 1 : Nat) : Int) - Int.toNat 0)) = a ++ [s] := by
      rw [h1]
      rw [show Int.toNat ((a.length + 1 : Nat) : Int) - Int.toNat 0 = a.length + 1 by simp]
      simp only [Int.toNat_zero, List.drop_zero]
      rw [List.take_append, List.take_of_length_le (Nat.le_succ _)]
      simp
    have e3 : evalS ds ps 0 (a ++ [s]) 0 = (-1, (a.length : Int)) := by
      have := eval_app 0 [s] a 0 0 j (by rw [Nat.zero_add]; exact h2)
      rw [this, evalS, if_pos h3, Nat.zero_add]
    rw [c1, c2, c6, hcut, ht, hw1, hcut1, ht1, ev a (by omega), h2, ev (a ++ [s]) (by simp; omega), e3]
    simp [awake12]

theorem F10_loop (n : Nat) (hn : 1000 ≤ n) {ds : List Dt} {ps : List Int} (h : Ok ds ps) (hpos : 0 < ps.length) (t1 : List Int) (hl : t1.length ≤ 8) :
    ∀ (r pre : List Int) (way : List (List UInt8)) (m : Nat), t1 = pre ++ r → way.length = pre.length → r.length + 1 ≤ m → F10l0 n m t1 (A1 ds ps) way (pre.length : Int) = some true
  | [], pre, way, m, hp, hw, hm => by
    obtain ⟨m, rfl⟩ : ∃ j, m = j + 1 := ⟨m - 1, by simp at hm; omega⟩
    rw [List.append_nil] at hp
    subst hp
    exact longer_way n hn h hpos way (by omega) t1 m
  | v :: r, pre, way, m, hp, hw, hm => by
    obtain ⟨m, rfl⟩ : ∃ j, m = j + 1 := ⟨m - 1, by simp at hm; omega⟩
    have hpl : pre.length ≤ 8 := by rw [hp] at hl; simp at hl; omega
    have hlt : decide ((pre.length : Int) < ((t1.length : Nat) : Int)) = true := by rw [hp]; exact lt_pre pre v r
    have hin : inB (pre.length : Int) t1.length = true := by rw [hp]; exact inB_L pre v r
    have hg : t1.getD (Int.toNat (pre.length : Int)) (Ty.dflt (.int .i64)) = v := by rw [hp]; exact getD_pre pre v _ r
    obtain ⟨s, hs⟩ := F27_ok n v
    have hr := room16 (way.length + ([s] : List (List UInt8)).length) (by simp; omega)
    rw [F10l0, F10l0F, hlt, hin, hg, hs, wrap_pre pre v (by omega)]
    simp only [cond_true, hr]
    exact F10_loop n hn h hpos t1 hl r (pre ++ [v]) (way ++ [s]) m (by rw [hp]; simp) (by simp [hw]) (by simp at hm; omega)

theorem longer_pure (n : Nat) (hn : 1000 ≤ n) (v l : List Int) : F10 n v l = some true := by
  obtain ⟨x, h1, h2⟩ := Small_good n (by omega) v
  obtain ⟨ds, ps, h3, h4, h5, h6⟩ := make_good h2 n (by omega)
  unfold F10
  rw [h1]
  simp only [h3, Option.isNone_some, cond_false, Bool.not_false, cond_true, awake12]
  by_cases hv : v.length > 60
  · rw [decide_eq_true (by omega)]; rfl
  rw [decide_eq_false (by omega), cond_false]
  by_cases hl : l.length > 8
  · rw [decide_eq_true (by omega)]; rfl
  rw [decide_eq_false (by omega), cond_false]
  exact F10_loop n hn h5.ok h6 l (by omega) l [] [] n rfl rfl (by omega)

theorem pointerLonger_pure (v l : List Int) : F10 1000 v l = some true := longer_pure _ (Nat.le_refl _) v l

end Go.Proofs.YtaeamjhgfhcjdaaDoor.Ab.Pt
