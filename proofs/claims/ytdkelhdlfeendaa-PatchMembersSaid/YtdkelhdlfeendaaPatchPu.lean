/- What the functions of layer 26 (patch) compute, as Lean functions, answers as the laws say: of nothing, and a value, comes the value without its Nulls. For every input. -/
import Derived.Test.YtdkelhdlfeendaaC21
import Derived.Test.YtdkelhdlfeendaaG
namespace Go.Proofs.Ytdkelhdlfeendaa.Ab
open Go
set_option linter.unusedSimpArgs false
set_option linter.unusedVariables false

theorem wrap64 {x : Int} (h1 : -9223372036854775808 ≤ x) (h2 : x ≤ 9223372036854775807) : IntKind.wrap .i64 x = x := by
  simp only [IntKind.wrap, IntKind.bits, IntKind.signed]
  simp
  omega

/-- Values that are not deep, nor broad. -/
def Sz : Nat → V → Prop
  | 0, _ => False
  | d + 1, v => v.names.length ≤ 16 ∧ v.kids.length ≤ 16 ∧ ∀ k ∈ v.kids, Sz d k

theorem inB_of {i : Nat} {len : Nat} (h : i < len) : inB (i : Int) len = true := by
  simp [inB]; omega

theorem dec_of {p : Prop} [Decidable p] (h : p) : decide p = true := decide_eq_true h

theorem getD_mem {α : Type} {l : List α} {i : Nat} (h : i < l.length) (d : α) : l.getD i d ∈ l := by
  simp [List.getD, List.getElem?_eq_getElem h]

theorem F14l1_self {self : V → V → Option Bool} {n : Nat} {k0 : Int} {k1 : Bool} {k2 : Int} {k3 : List UInt8} {ns : List (List UInt8)} {ks : List V} (hs : ∀ k ∈ ks, self k k = some true) (hl : ks.length ≤ 16) :
    ∀ j i m, i + j = ks.length → j < m → F14l1 self n m (i : Int) k0 k1 k2 k3 ns ks k0 k1 k2 k3 ns ks = some true := by
  intro j
  induction j with
  | zero =>
    intro i m h1 h2
    obtain ⟨m, rfl⟩ : ∃ q, m = q + 1 := ⟨m - 1, by omega⟩
    simp only [F14l1, F14l1F]
    rw [decide_eq_false (by omega)]
    rfl
  | succ j ih =>
    intro i m h1 h2
    obtain ⟨m, rfl⟩ : ∃ q, m = q + 1 := ⟨m - 1, by omega⟩
    have hlt : i < ks.length := by omega
    simp only [F14l1, F14l1F]
    rw [decide_eq_true (by omega), inB_of hlt, hs _ (by rw [Int.toNat_natCast]; exact getD_mem hlt _)]
    simp only [cond_true, Bool.not_true, cond_false]
    rw [wrap64 (by omega) (by omega)]
    exact ih (i + 1) m (by omega) (by omega)

theorem F14l0_self {self : V → V → Option Bool} {n : Nat} {k0 : Int} {k1 : Bool} {k2 : Int} {k3 : List UInt8} {ns : List (List UInt8)} {ks : List V} (hs : ∀ k ∈ ks, self k k = some true) (hl : ks.length ≤ 16) (hn : ns.length ≤ 16) (h20 : 20 ≤ n) :
    ∀ j i m, i + j = ns.length → j < m → F14l0 self n m (i : Int) k0 k1 k2 k3 ns ks k0 k1 k2 k3 ns ks = some true := by
  intro j
  induction j with
  | zero =>
    intro i m h1 h2
    obtain ⟨m, rfl⟩ : ∃ q, m = q + 1 := ⟨m - 1, by omega⟩
    simp only [F14l0, F14l0F]
    rw [decide_eq_false (by omega)]
    exact F14l1_self hs hl ks.length 0 n (by omega) (by omega)
  | succ j ih =>
    intro i m h1 h2
    obtain ⟨m, rfl⟩ : ∃ q, m = q + 1 := ⟨m - 1, by omega⟩
    have hlt : i < ns.length := by omega
    simp only [F14l0, F14l0F]
    rw [decide_eq_true (by omega), inB_of hlt, beq_self_eq_true]
    simp only [cond_true, Bool.not_true, cond_false]
    rw [wrap64 (by omega) (by omega)]
    exact ih (i + 1) m (by omega) (by omega)

/-- A value is the same as itself. -/
theorem same_self : ∀ (d : Nat) (v : V) (n : Nat), Sz d v → d + 20 ≤ n → F14 n v v = some true
  | 0, _, _, h, _ => h.elim
  | d + 1, v, n, ⟨h1, h2, h3⟩, hn => by
    obtain ⟨n, rfl⟩ : ∃ q, n = q + 1 := ⟨n - 1, by omega⟩
    simp only [F14, F14B, bne_self_eq_false, beq_self_eq_true, Bool.not_true, cond_false]
    exact F14l0_self (fun k hk => same_self d k n (h3 k hk) (by omega)) h2 h1 (by omega) v.names.length 0 n (by omega) (by omega)

/-- A name that is not there is not found. -/
theorem F29_none {n : Nat} {ns : List (List UInt8)} {x : List UInt8} (hx : x ∉ ns) (hl : ns.length ≤ 16) (hn : 20 ≤ n) : F29 n ns x = some (-1) := by
  have key : ∀ j i m, i + j = ns.length → j < m → F29l0 n m ns x (ns.length : Int) (i : Int) = some (-1) := by
    intro j
    induction j with
    | zero =>
      intro i m h1 h2
      obtain ⟨m, rfl⟩ : ∃ q, m = q + 1 := ⟨m - 1, by omega⟩
      simp only [F29l0, F29l0F]
      rw [decide_eq_false (by omega)]
      rfl
    | succ j ih =>
      intro i m h1 h2
      obtain ⟨m, rfl⟩ : ∃ q, m = q + 1 := ⟨m - 1, by omega⟩
      have hlt : i < ns.length := by omega
      simp only [F29l0, F29l0F]
      have hne : (x == ns.getD (Int.toNat (i : Int)) (Ty.dflt .str)) = false := by
        rw [beq_eq_false_iff_ne]
        intro e
        exact hx (e ▸ by rw [Int.toNat_natCast]; exact getD_mem hlt _)
      rw [decide_eq_true (by omega), inB_of hlt, hne]
      simp only [cond_true, cond_false]
      rw [wrap64 (by omega) (by omega)]
      exact ih (i + 1) m (by omega) (by omega)
  exact key ns.length 0 n (by omega) (by omega)

/-- A value as the laws draw them: an object's names are no two alike, as many as its kids. -/
def Good : Nat → V → Prop
  | 0, _ => False
  | d + 1, v => v.names.length ≤ 4 ∧ v.kids.length ≤ 4 ∧ (v.kind = 6 → v.names.length = v.kids.length ∧ v.names.Nodup ∧ v.b = false ∧ v.n = 0 ∧ v.s = []) ∧ (v.kind ≠ 6 → v.names = []) ∧ ∀ k ∈ v.kids, Good d k

theorem Good.sz : ∀ {d : Nat} {v : V}, Good d v → Sz d v
  | 0, _, h => h.elim
  | _ + 1, _, ⟨h1, h2, _, _, h4⟩ => ⟨by omega, by omega, fun k hk => (h4 k hk).sz⟩

theorem V.eta (v : V) : V.mk v.kind v.b v.n v.s v.names v.kids = v := by cases v; rfl

def none0 : V := ⟨0, false, 0, [], [], []⟩

theorem maxRoom_ge {a b : Nat} (ha : a ≤ 20) (hb : b ≤ 100) : a * b ≤ maxRoom := by
  have : a * b ≤ 20 * 100 := Nat.mul_le_mul ha hb
  simp only [maxRoom]; omega

/-- Of nothing, and a value, comes the value without its Nulls. -/
theorem merge_bare : ∀ (d : Nat) (p : V) (n : Nat), Good d p → d + 20 ≤ n → ∃ r, F15 n none0 p = some r ∧ F19 n p = some r ∧ Sz d r
  | 0, _, _, h, _ => h.elim
  | d + 1, p, n, hp, hn => by
    obtain ⟨n, rfl⟩ : ∃ q, n = q + 1 := ⟨n - 1, by omega⟩
    obtain ⟨h1, h2, h3, _, h4⟩ := hp
    simp only [F15, F19, F15B, F19B]
    by_cases hk : p.kind = 6
    · obtain ⟨h5, h6, _⟩ := h3 hk
      have e1 : (p.kind != 6) = false := by simp [hk]
      have e2 : (none0.kind == 6) = false := rfl
      simp only [e1, e2, cond_false, F15j0]
      have ih : ∀ k ∈ p.kids, ∃ r, F15 n none0 k = some r ∧ F19 n k = some r ∧ Sz d r := fun k hk => merge_bare d k n (h4 k hk) (by omega)
      have key : ∀ j i m, i + j = p.kids.length → j < m → ∀ (ns : List (List UInt8)) (ks : List V), ns.length ≤ i → ks.length = ns.length → (∀ x ∈ ns, x ∈ p.names.take i) → (∀ k ∈ ks, Sz d k) →
          ∃ r, F15l1 (F15 n) n m p.kids (p.kids.length : Int) (i : Int) p.kind p.b p.n p.s p.names p.kids 0 false 0 [] [] [] 6 false 0 [] ns ks = some r ∧
            F19l0 (F19 n) n m (i : Int) p.kind p.b p.n p.s p.names p.kids 0 false 0 [] [] [] 6 false 0 [] ns ks = some r ∧ Sz (d + 1) r := by
        intro j
        induction j with
        | zero =>
          intro i m q1 q2 ns ks q3 q4 q5 q6
          obtain ⟨m, rfl⟩ : ∃ q, m = q + 1 := ⟨m - 1, by omega⟩
          simp only [F15l1, F15l1F, F19l0, F19l0F]
          rw [decide_eq_false (by omega)]
          exact ⟨_, rfl, rfl, by simp only; omega, by simp only; omega, q6⟩
        | succ j ihj =>
          intro i m q1 q2 ns ks q3 q4 q5 q6
          obtain ⟨m, rfl⟩ : ∃ q, m = q + 1 := ⟨m - 1, by omega⟩
          have hlt : i < p.kids.length := by omega
          have hlt2 : i < p.names.length := by omega
          have hnot : p.names.getD i (Ty.dflt .str) ∉ ns := by
            intro hm
            have hm2 := q5 _ hm
            rw [List.getD_eq_getElem?_getD, List.getElem?_eq_getElem hlt2, Option.getD_some] at hm2
            obtain ⟨a, ha, hae⟩ := List.mem_take_iff_getElem.1 hm2
            exact List.pairwise_iff_getElem.1 h6 a i (by omega) hlt2 (by omega) hae
          simp only [F15l1, F15l1F, F19l0, F19l0F]
          rw [decide_eq_true (by omega), inB_of hlt, decide_eq_false (by omega), inB_of hlt2, Int.toNat_natCast]
          simp only [cond_true, cond_false]
          rw [F29_none hnot (by omega) (by omega)]
          simp only
          rw [decide_eq_false (by omega)]
          simp only [cond_false]
          generalize hx : p.kids.getD i (Ty.dflt .value) = x
          have hxm : x ∈ p.kids := hx ▸ getD_mem hlt _
          by_cases hnull : x.kind = 1
          · have e3 : (x.kind == 1) = true := by simp [hnull]
            have e4 : (x.kind != 1) = false := by simp [hnull]
            simp only [e3, e4, cond_true, cond_false, F15j2]
            rw [decide_eq_false (by omega)]
            simp only [cond_false]
            rw [wrap64 (by omega) (by omega)]
            exact ihj (i + 1) m (by omega) (by omega) ns ks (by omega) q4 (fun x hx => by
              obtain ⟨a, ha, e⟩ := List.mem_take_iff_getElem.1 (q5 x hx)
              exact List.mem_take_iff_getElem.2 ⟨a, by omega, e⟩) q6
          · have e3 : (x.kind == 1) = false := by simp [hnull]
            have e4 : (x.kind != 1) = true := by simp [hnull]
            obtain ⟨r, r1, r2, r3⟩ := ih x hxm
            simp only [e3, e4, cond_true, cond_false, F15j2]
            rw [decide_eq_false (by omega), inB_of hlt2]
            simp only [cond_true, cond_false, V.eta, Int.toNat_natCast, hx]
            have b1 : (decide ((ns.length + ([p.names.getD i (Ty.dflt .str)] : List (List UInt8)).length) * 16 ≤ maxRoom) && decide (ns.length + ([p.names.getD i (Ty.dflt .str)] : List (List UInt8)).length ≤ maxRoom)) = true := by
              simp [maxRoom]; omega
            have b2 : ∀ r : V, (decide ((ks.length + ([r] : List V).length) * 88 ≤ maxRoom) && decide (ks.length + ([r] : List V).length ≤ maxRoom)) = true := by
              intro r; simp [maxRoom]; omega
            rw [b1]
            have r1' : F15 n ⟨0, false, 0, [], [], []⟩ x = some r := r1
            simp only [cond_true, r1', r2, b2]
            rw [wrap64 (by omega) (by omega)]
            refine ihj (i + 1) m (by omega) (by omega) _ _ (by simp; omega) (by simp [q4]) (fun y hy => ?_) (fun k hk => ?_)
            · rcases List.mem_append.1 hy with hy | hy
              · obtain ⟨a, ha, e⟩ := List.mem_take_iff_getElem.1 (q5 y hy)
                exact List.mem_take_iff_getElem.2 ⟨a, by omega, e⟩
              · rw [List.mem_singleton] at hy
                subst hy
                refine List.mem_take_iff_getElem.2 ⟨i, by omega, ?_⟩
                rw [List.getD_eq_getElem?_getD, List.getElem?_eq_getElem hlt2, Option.getD_some]
            · rcases List.mem_append.1 hk with hk | hk
              · exact q6 k hk
              · rw [List.mem_singleton] at hk; subst hk; exact r3
      exact key p.kids.length 0 n (by omega) (by omega) [] [] (Nat.zero_le _) rfl (by simp) (by simp)
    · have e1 : (p.kind != 6) = true := by simp [hk]
      simp only [e1, cond_true]
      rw [V.eta]
      exact ⟨p, rfl, rfl, by omega, by omega, fun k hk => (h4 k hk).sz⟩

theorem dv {k c : Int} (hk : 0 ≤ k) (hk2 : k < 1099511627776) (hc : 0 < c) : IntKind.wrap .i64 (Int.tdiv k c) = k / c := by
  rw [Int.tdiv_eq_ediv_of_nonneg hk]
  have h1 : 0 ≤ k / c := Int.ediv_nonneg hk (by omega)
  have h2 : k / c ≤ k := Int.ediv_le_self c hk
  exact wrap64 (by omega) (by omega)

theorem md {k c : Int} (hk : 0 ≤ k) : Int.tmod k c = k % c := Int.tmod_eq_emod_of_nonneg hk

theorem place {n : Nat} {v c : Int} (hc : 0 < c) (hc2 : c ≤ 1099511627776) : ∃ k, F23 n v c = some k ∧ 0 ≤ k ∧ k < c := by
  unfold F23
  have e : (c == 0) = false := by rw [beq_eq_false_iff_ne]; omega
  simp only [e, Bool.not_false, cond_true]
  have h1 : Int.tmod v c < c := Int.tmod_lt_of_pos v hc
  have h2 : -c < Int.tmod v c := by
    have := Int.tmod_lt_of_pos (-v) hc
    rw [Int.neg_tmod] at this
    omega
  by_cases h : Int.tmod v c < 0
  · rw [decide_eq_true h]
    exact ⟨_, rfl, by rw [wrap64 (by omega) (by omega)]; omega, by rw [wrap64 (by omega) (by omega)]; omega⟩
  · rw [decide_eq_false h]
    exact ⟨_, rfl, by omega, h1⟩

def nmL (last : List UInt8) : List (List UInt8) := [[97], [98], [99], [100], last]
def isLast (l : List UInt8) : Prop := l = [195, 169] ∨ l = [101, 204, 129]
theorem nm_inj {last : List UInt8} (h : isLast last) : ∀ x, x < 5 → ∀ y, y < 5 → (nmL last).getD x [] = (nmL last).getD y [] → x = y := by
  rcases h with rfl | rfl <;> decide

def nmAt (q : Int) (last : List UInt8) (i : Nat) : List (List UInt8) := (List.range i).map fun (j : Nat) => (nmL last).getD ((q + (j : Int)) % 5).toNat []

theorem nmAt_nodup {q : Int} {last : List UInt8} (h : isLast last) {i : Nat} (hi : i ≤ 4) : (nmAt q last i).Nodup := by
  unfold nmAt
  refine List.pairwise_map.2 ?_
  refine List.Pairwise.imp_of_mem ?_ List.nodup_range
  intro a b ha hb hne he
  rw [List.mem_range] at ha hb
  have := nm_inj h _ (by omega) _ (by omega) he
  omega

def cost : Nat → Int
  | 0 => 1
  | d + 1 => 1 + 4 * cost d

theorem cost_pos : ∀ d, 1 ≤ cost d
  | 0 => by simp [cost]
  | d + 1 => by have := cost_pos d; simp only [cost]; omega

theorem small_loop {self : List Int → Int → Int → Option (V × Int)} {n d : Nat} {l : List Int} {t2 k : Int} {last : List UInt8} {kind : Int} {B c : Int} (hcp : 1 ≤ c) (hk0 : 0 ≤ k) (hk1 : k < 1099511627776) (ht : 1 ≤ t2) (ht2 : t2 ≤ 100)
    (hlast : isLast last) (hkind : kind = 6 ∨ kind = 5) (hs : ∀ a, 0 ≤ a → a ≤ B → ∃ v a', self l a (t2 - 1) = some (v, a') ∧ Good d v ∧ a ≤ a' ∧ a' ≤ a + c) {x0 x2 : Int} {x1 : Bool} {x3 : List UInt8} {x4 : List (List UInt8)} {x5 : List V} {cnt : Nat} (hcnt : (cnt : Int) = k / 6 % 5) :
    ∀ (j i m : Nat) (at_ : Int) (ks : List V), i + j = cnt → j < m → 0 ≤ at_ → at_ + (j : Int) * c ≤ B → ks.length = i → (∀ v ∈ ks, Good d v) →
      ∃ v a', F32l2 self n m l at_ t2 k last (i : Int) x0 x1 x2 x3 x4 x5 kind false 0 [] (if kind = 6 then nmAt (k / 30) last i else []) ks = some (v, a') ∧ Good (d + 1) v ∧ at_ ≤ a' ∧ a' ≤ at_ + (j : Int) * c := by
  have hk6 : 0 ≤ k / 6 := Int.ediv_nonneg hk0 (by omega)
  have hk30 : 0 ≤ k / 30 := Int.ediv_nonneg hk0 (by omega)
  have hk30' : k / 30 ≤ k := Int.ediv_le_self _ hk0
  intro j
  induction j with
  | zero =>
    intro i m at_ ks q1 q2 q3 q4 q5 q6
    obtain ⟨m, rfl⟩ : ∃ q, m = q + 1 := ⟨m - 1, by omega⟩
    simp only [F32l2, F32l2F]
    rw [dv hk0 hk1 (by omega), md hk6, decide_eq_false (by omega)]
    refine ⟨_, _, rfl, ?_, by omega, by omega⟩
    refine ⟨?_, ?_, ?_, ?_, q6⟩
    · simp only; split <;> simp [nmAt]; omega
    · simp only; omega
    · intro h6
      simp only at h6
      subst h6
      simp only [if_true]
      exact ⟨by simp [nmAt, q5], nmAt_nodup hlast (by omega), trivial, trivial, trivial⟩
    · intro h6
      simp only at h6 ⊢
      rw [if_neg h6]
  | succ j ih =>
    intro i m at_ ks q1 q2 q3 q4 q5 q6
    obtain ⟨m, rfl⟩ : ∃ q, m = q + 1 := ⟨m - 1, by omega⟩
    have hmul : ((j + 1 : Nat) : Int) * c = (j : Int) * c + c := by rw [Int.natCast_add, Int.add_mul]; simp
    have hjc : 0 ≤ (j : Int) * c := Int.mul_nonneg (by omega) (by omega)
    rw [hmul] at q4 ⊢
    obtain ⟨v, a1, e1, e2, e3, e4⟩ := hs at_ q3 (by omega)
    simp only [F32l2, F32l2F]
    rw [dv hk0 hk1 (by omega), md hk6, decide_eq_true (by omega), wrap64 (x := t2 - 1) (by omega) (by omega), e1]
    have hb1 : (ks.length + 1) * 88 ≤ maxRoom := by simp only [maxRoom]; omega
    have hb2 : ks.length + 1 ≤ maxRoom := by simp only [maxRoom]; omega
    have hi1 : IntKind.wrap .i64 ((i : Int) + 1) = ((i + 1 : Nat) : Int) := by rw [wrap64 (by omega) (by omega)]; omega
    have hcl : ∀ u ∈ ks ++ [v], Good d u := by
      intro u hu
      rcases List.mem_append.1 hu with hu | hu
      · exact q6 u hu
      · rw [List.mem_singleton] at hu; exact hu ▸ e2
    rcases hkind with rfl | rfl
    · have hq : IntKind.wrap .i64 (k / 30 + (i : Int)) = k / 30 + (i : Int) := wrap64 (by omega) (by omega)
      simp only [dv hk0 hk1 (show (0 : Int) < 30 by omega), hq, md (show 0 ≤ k / 30 + (i : Int) by omega), V.eta]
      have hin : inB ((k / 30 + (i : Int)) % 5) 5 = true := by simp [inB]; omega
      have hb3 : ((nmAt (k / 30) last i).length + 1) * 16 ≤ maxRoom := by simp only [maxRoom, nmAt, List.length_map, List.length_range]; omega
      have hb4 : (nmAt (k / 30) last i).length + 1 ≤ maxRoom := by simp only [maxRoom, nmAt, List.length_map, List.length_range]; omega
      have hcl2 : nmAt (k / 30) last i ++ [(nmL last).getD (Int.toNat ((k / 30 + (i : Int)) % 5)) (Ty.dflt .str)] = nmAt (k / 30) last (i + 1) := by
        simp [nmAt, List.range_succ, Ty.dflt]
      obtain ⟨u, a2, f1, f2, f3, f4⟩ := ih (i + 1) m a1 (ks ++ [v]) (by omega) (by omega) (by omega) (by omega) (by simp [q5]) hcl
      refine ⟨u, a2, ?_, f2, by omega, by omega⟩
      rw [← f1]
      simp only [if_true]
      rw [← hcl2, hin, hi1]
      simp only [List.length_cons, List.length_nil, Nat.zero_add, decide_eq_true hb1, decide_eq_true hb2, decide_eq_true hb3, decide_eq_true hb4, Bool.and_true, cond_true, Bool.not_false, beq_self_eq_true, nmL, show ((6 : Int) == 0) = false from rfl, show ((5 : Int) == 0) = false from rfl, show ((30 : Int) == 0) = false from rfl]
      rfl
    · obtain ⟨u, a2, f1, f2, f3, f4⟩ := ih (i + 1) m a1 (ks ++ [v]) (by omega) (by omega) (by omega) (by omega) (by simp [q5]) hcl
      refine ⟨u, a2, ?_, f2, by omega, by omega⟩
      rw [← f1]
      simp only [show ((5 : Int) = 6) = False from by simp, if_false]
      rw [hi1]
      simp only [List.length_cons, List.length_nil, Nat.zero_add, decide_eq_true hb1, decide_eq_true hb2, Bool.and_true, cond_true, cond_false, Bool.not_false, show ((5 : Int) == 6) = false from rfl, show ((6 : Int) == 0) = false from rfl, show ((5 : Int) == 0) = false from rfl, V.eta]
      rfl

theorem leaf_good (d : Nat) {k : Int} {b : Bool} {x : Int} {t : List UInt8} (hk : k ≠ 6) : Good (d + 1) ⟨k, b, x, t, [], []⟩ := ⟨by simp, by simp, fun h => absurd h hk, fun _ => rfl, by simp⟩

theorem F32j0_good {self : List Int → Int → Int → Option (V × Int)} {n d : Nat} {l : List Int} {t1 t2 k : Int} {B : Int} (hn : 20 ≤ n) (hk0 : 0 ≤ k) (hk1 : k < 1099511627776) (ht : t2 = (d : Int)) (ht2 : d ≤ 99)
    (h1 : 0 ≤ t1) (hB : t1 + cost d ≤ B) (hB2 : B ≤ 1000000000) (hs : ∀ e, d = e + 1 → ∀ a, 0 ≤ a → a ≤ B → ∃ v a', self l a (t2 - 1) = some (v, a') ∧ Good (e + 1) v ∧ a ≤ a' ∧ a' ≤ a + cost e) {x0 x2 : Int} {x1 : Bool} {x3 : List UInt8} {x4 : List (List UInt8)} {x5 : List V} :
    ∃ v a', F32j0 self n l t1 t2 k x0 x1 x2 x3 x4 x5 = some (v, a') ∧ Good (d + 1) v ∧ t1 ≤ a' ∧ a' ≤ t1 + cost d := by
  have hcp := cost_pos d
  have hk6 : 0 ≤ k / 6 := Int.ediv_nonneg hk0 (by omega)
  have hk24 : 0 ≤ k / 24 := Int.ediv_nonneg hk0 (by omega)
  have hk150 : 0 ≤ k / 150 := Int.ediv_nonneg hk0 (by omega)
  have hat : IntKind.wrap .i64 (t1 + 1) = t1 + 1 := wrap64 (by omega) (by omega)
  have leaf : ∃ v a', (bif (k / 6 % 4 == 0) then some ((⟨1, false, 0, [], [], []⟩ : V), t1 + 1) else bif (k / 6 % 4 == 1) then some ((⟨3, false, k / 24 % 3, [], [], []⟩ : V), t1 + 1) else
      bif (k / 6 % 4 == 2) then some ((⟨2, (k / 24 % 2 == 0), 0, [], [], []⟩ : V), t1 + 1) else some ((⟨4, false, 0, ([[], [97], [195, 169]] : List (List UInt8)).getD (Int.toNat (k / 24 % 3)) [], [], []⟩ : V), t1 + 1)) = some (v, a') ∧ Good (d + 1) v ∧ t1 ≤ a' ∧ a' ≤ t1 + cost d := by
    cases (k / 6 % 4 == 0)
    · cases (k / 6 % 4 == 1)
      · cases (k / 6 % 4 == 2)
        · exact ⟨_, _, rfl, leaf_good d (by decide), by omega, by omega⟩
        · exact ⟨_, _, rfl, leaf_good d (by decide), by omega, by omega⟩
      · exact ⟨_, _, rfl, leaf_good d (by decide), by omega, by omega⟩
    · exact ⟨_, _, rfl, leaf_good d (by decide), by omega, by omega⟩
  have hin : inB (k / 24 % 3) 3 = true := by simp [inB]; omega
  have c6 : ((6 : Int) == 0) = false := rfl
  have c4 : ((4 : Int) == 0) = false := rfl
  have c24 : ((24 : Int) == 0) = false := rfl
  have c3 : ((3 : Int) == 0) = false := rfl
  have c2 : ((2 : Int) == 0) = false := rfl
  have c150 : ((150 : Int) == 0) = false := rfl
  unfold F32j0
  simp only [dv hk0 hk1 (show (0 : Int) < 6 by omega), dv hk0 hk1 (show (0 : Int) < 24 by omega), md hk6, md hk24, md hk0, hat, hin, c6, c4, c24, c3, c2, Bool.not_false, cond_true, Bool.and_true]
  by_cases hd : t2 = 0
  · rw [show (t2 == 0) = true by rw [hd]; rfl]
    simp only [cond_true]
    exact leaf
  rw [show (t2 == 0) = false by rw [beq_eq_false_iff_ne]; exact hd]
  simp only [cond_false]
  by_cases hlt : k % 6 < 2
  · rw [decide_eq_true hlt]
    simp only [cond_true]
    exact leaf
  rw [decide_eq_false hlt]
  simp only [cond_false]
  by_cases hgt : t1 + 1 > (l.length : Int)
  · rw [decide_eq_true hgt]
    simp only [cond_true]
    exact leaf
  rw [decide_eq_false hgt]
  simp only [cond_false]
  obtain ⟨e, rfl⟩ : ∃ e, d = e + 1 := ⟨d - 1, by omega⟩
  have hin2 : inB (k / 150 % 2) 2 = true := by simp [inB]; omega
  have hlast : isLast ((([([195, 169] : List UInt8), ([101, 204, 129] : List UInt8)] : List (List UInt8))).getD (Int.toNat (k / 150 % 2)) (Ty.dflt .str)) := by
    have : k / 150 % 2 = 0 ∨ k / 150 % 2 = 1 := by omega
    rcases this with h | h <;> rw [h]
    · exact .inl rfl
    · exact .inr rfl
  obtain ⟨cnt, hcnt⟩ : ∃ cnt : Nat, (cnt : Int) = k / 6 % 5 := ⟨(k / 6 % 5).toNat, by omega⟩
  have hcost : (cnt : Int) * cost e ≤ 4 * cost e := Int.mul_le_mul_of_nonneg_right (by omega) (by have := cost_pos e; omega)
  have hce : cost (e + 1) = 1 + 4 * cost e := rfl
  have ht1 : 1 ≤ t2 := by omega
  have ht100 : t2 ≤ 100 := by omega
  have node : ∀ kind : Int, kind = 6 ∨ kind = 5 → ∃ v a', F32j1 self n l (t1 + 1) t2 k x0 x1 x2 x3 x4 x5 kind false 0 [] [] [] = some (v, a') ∧ Good (e + 1 + 1) v ∧ t1 ≤ a' ∧ a' ≤ t1 + cost (e + 1) := by
    intro kind hkind
    unfold F32j1
    simp only [dv hk0 hk1 (show (0 : Int) < 150 by omega), md hk150, hin2, c150, c2, Bool.not_false, cond_true, Bool.and_true]
    obtain ⟨v, a', f1, f2, f3, f4⟩ := small_loop (d := e + 1) (B := B) (cost_pos e) (x0 := x0) (x1 := x1) (x2 := x2) (x3 := x3) (x4 := x4) (x5 := x5) hk0 hk1 ht1 ht100 hlast hkind (hs e rfl) hcnt cnt 0 n (t1 + 1) [] (by omega) (by omega) (by omega) (by omega) rfl (by simp)
    refine ⟨v, a', ?_, f2, by omega, by omega⟩
    rw [← f1]
    congr 1
    split <;> rfl
  cases (k % 6 == 5)
  · exact node 6 (.inl rfl)
  · exact node 5 (.inr rfl)

theorem small_good : ∀ (d : Nat) (l : List Int) (a : Int) (n : Nat), 0 ≤ a → a + 2 * cost d ≤ 100000000 → d ≤ 99 → d + 21 ≤ n → ∃ v a', F32 n l a (d : Int) = some (v, a') ∧ Good (d + 1) v ∧ a ≤ a' ∧ a' ≤ a + cost d := by
  intro d
  induction d with
  | zero =>
    intro l a n h1 h2 h3 h5
    obtain ⟨n, rfl⟩ : ∃ q, n = q + 1 := ⟨n - 1, by omega⟩
    simp only [F32, F32B]
    have key : ∀ k, 0 ≤ k → k < 1099511627776 → ∃ v a', F32j0 (F32 n) n l a ((0 : Nat) : Int) k 0 false 0 [] [] [] = some (v, a') ∧ Good (0 + 1) v ∧ a ≤ a' ∧ a' ≤ a + cost 0 := fun k hk0 hk1 =>
      F32j0_good (d := 0) (B := 100000000) (by omega) hk0 hk1 rfl (by omega) h1 (by simp only [cost] at h2 ⊢; omega) (by omega) (fun e he => by omega)
    by_cases hlt : a < (l.length : Int)
    · rw [decide_eq_true hlt, show inB a l.length = true by simp [inB]; omega]
      obtain ⟨k, hk, k0, k1⟩ := place (n := n) (v := l.getD (Int.toNat a) (Ty.dflt (.int .i64))) (c := 1099511627776) (by omega) (by omega)
      simp only [cond_true, hk]
      exact key k k0 k1
    · rw [decide_eq_false hlt]
      exact key 0 (by omega) (by omega)
  | succ d ih =>
    intro l a n h1 h2 h3 h5
    obtain ⟨n, rfl⟩ : ∃ q, n = q + 1 := ⟨n - 1, by omega⟩
    simp only [F32, F32B]
    have hc : cost (d + 1) = 1 + 4 * cost d := rfl
    have hcp := cost_pos d
    have key : ∀ k, 0 ≤ k → k < 1099511627776 → ∃ v a', F32j0 (F32 n) n l a ((d + 1 : Nat) : Int) k 0 false 0 [] [] [] = some (v, a') ∧ Good (d + 1 + 1) v ∧ a ≤ a' ∧ a' ≤ a + cost (d + 1) := fun k hk0 hk1 =>
      F32j0_good (d := d + 1) (B := a + cost (d + 1)) (by omega) hk0 hk1 rfl (by omega) h1 (by omega) (by omega) (fun e he b hb0 hb1 => by
        obtain rfl : d = e := by omega
        have := ih l b n hb0 (by omega) (by omega) (by omega)
        rw [show (((d + 1 : Nat) : Int) - 1) = (d : Int) by omega]
        exact this)
    by_cases hlt : a < (l.length : Int)
    · rw [decide_eq_true hlt, show inB a l.length = true by simp [inB]; omega]
      obtain ⟨k, hk, k0, k1⟩ := place (n := n) (v := l.getD (Int.toNat a) (Ty.dflt (.int .i64))) (c := 1099511627776) (by omega) (by omega)
      simp only [cond_true, hk]
      exact key k k0 k1
    · rw [decide_eq_false hlt]
      exact key 0 (by omega) (by omega)

theorem Small_good' (zs : List Int) : ∃ v, F17 100 zs = some v ∧ Good 5 v := by
  obtain ⟨v, a, h1, h2, _⟩ := small_good 4 zs 0 100 (by omega) (by simp [cost]) (by omega) (by omega)
  refine ⟨v, ?_, h2⟩
  have h1' : F32 100 zs 0 4 = some (v, a) := h1
  unfold F17
  rw [h1']
  simp only [V.eta]

theorem Small_good {zs : List Int} (h : zs.length ≤ 1000000) : ∃ v, F17 100 zs = some v ∧ Good 5 v := Small_good' zs

theorem awake_true : F10 100 = some true := by kernel_rfl

theorem patchBare_pure (zs : List Int) : F7 100 zs = some true := by
  unfold F7
  by_cases h : (zs.length : Int) > 60
  · rw [decide_eq_true h, awake_true]
    rfl
  · rw [decide_eq_false h]
    obtain ⟨p, h1, h2⟩ := Small_good (zs := zs) (by omega)
    obtain ⟨r, r1, r2, r3⟩ := merge_bare 5 p 100 h2 (by omega)
    have r1' : F15 100 ⟨0, false, 0, [], [], []⟩ p = some r := r1
    simp only [cond_false, h1, V.eta, r1', r2, same_self 5 r 100 r3 (by omega), cond_true, awake_true]

end Go.Proofs.Ytdkelhdlfeendaa.Ab
