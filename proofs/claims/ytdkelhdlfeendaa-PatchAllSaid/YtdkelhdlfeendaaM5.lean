/- The values that PatchAll draws: rows under rows; both Merges agree on those that are right. -/
import Derived.Test.YtdkelhdlfeendaaM4
namespace Go.Proofs.Ytdkelhdlfeendaa.Ab.Pm
open Go Go.RowKit Go.Proofs
set_option linter.unusedSimpArgs false
set_option linter.unusedVariables false

abbrev Raw := Int × (Int × (Bool × (Int × (List UInt8 × (List UInt8 × (Bool × Unit))))))

def FewL (l : List Raw) : Prop := 0 < l.length ∧ l.length ≤ 30 ∧ ∀ r ∈ l, r.2.2.2.2.1.length ≤ 40 ∧ r.2.2.2.2.2.1.length ≤ 40

theorem few_loop {n : Nat} : ∀ (suf pre : List Raw) (m : Nat), suf.length < m → (pre ++ suf).length ≤ 9223372036854775807 → (∀ r ∈ pre, r.2.2.2.2.1.length ≤ 40 ∧ r.2.2.2.2.2.1.length ≤ 40) →
    ∃ b, F9l0 n m (pre ++ suf) (pre.length : Int) = some b ∧ (b = true → FewL (pre ++ suf))
  | [], pre, m, hm, hl, hp => by
    obtain ⟨m, rfl⟩ : ∃ q, m = q + 1 := ⟨m - 1, by omega⟩
    simp only [F9l0, F9l0F, List.append_nil]
    rw [decide_eq_false (by omega)]
    simp only [cond_false]
    by_cases h : (pre.length : Int) > 0
    · rw [decide_eq_true h]
      refine ⟨_, rfl, fun hb => ⟨by omega, ?_, hp⟩⟩
      have := of_decide_eq_true hb
      omega
    · rw [decide_eq_false h]
      exact ⟨false, rfl, fun h => by cases h⟩
  | r :: suf, pre, m, hm, hl, hp => by
    obtain ⟨m, rfl⟩ : ∃ q, m = q + 1 := ⟨m - 1, by omega⟩
    have e : pre ++ r :: suf = (pre ++ [r]) ++ suf := by simp
    have hlen : pre.length + suf.length + 1 ≤ 9223372036854775807 := by simp at hl; omega
    simp only [F9l0, F9l0F]
    rw [lt_pre', inb_pre, get_pre]
    simp only [cond_true]
    by_cases h1 : (r.2.2.2.2.1.length : Int) > 40
    · rw [decide_eq_true h1]
      exact ⟨false, rfl, fun h => by cases h⟩
    rw [decide_eq_false h1]
    simp only [cond_false]
    by_cases h2 : (r.2.2.2.2.2.1.length : Int) > 40
    · rw [decide_eq_true h2]
      exact ⟨false, rfl, fun h => by cases h⟩
    rw [decide_eq_false h2]
    simp only [cond_false]
    rw [wrap64 (by omega) (by omega)]
    obtain ⟨b, hb, hf⟩ := few_loop (n := n) suf (pre ++ [r]) m (by simp at hm; omega) (by rw [← e]; exact hl) (fun x hx => by
      rcases List.mem_append.1 hx with hx | hx
      · exact hp x hx
      · rw [List.mem_singleton] at hx; subst hx; omega)
    rw [← e] at hb hf
    simp only [List.length_append, List.length_singleton, Int.natCast_add, Int.natCast_one] at hb
    exact ⟨b, hb, hf⟩

theorem F9_ok (l : List Raw) {n : Nat} (hn : l.length < n) (hl : l.length ≤ 9223372036854775807) : ∃ b, F9 n l = some b ∧ (b = true → FewL l) := by
  have := few_loop (n := n) l [] n hn hl (by simp)
  exact this

theorem fits_succ {B : Nat} : ∀ {d : Nat} {v : V}, FitsV B d v → FitsV B (d + 1) v
  | 0, _, h => h.elim
  | _ + 1, _, ⟨h1, h2, h3, h4, h5⟩ => ⟨h1, h2, h3, h4, fun k hk => fits_succ (h5 k hk)⟩

theorem fits_le {B : Nat} {v : V} {d e : Nat} (h : d ≤ e) (hv : FitsV B d v) : FitsV B e v := by
  induction h with
  | refl => exact hv
  | step _ ih => exact fits_succ ih

theorem tree_loop {l : List Raw} (hl : l.length ≤ 30) (ht : ∀ r ∈ l, r.2.2.2.2.1.length ≤ 40 ∧ r.2.2.2.2.2.1.length ≤ 40) {n i d : Nat} {x0 x2 y0 y2 : Int} {x1 y1 : Bool} {x3 y3 : List UInt8} {x4 : List (List UInt8)} {x5 : List V} {self : List Raw → Int → Option V} (hy : y3.length ≤ 40)
    (hs : ∀ j : Nat, i < j → j < l.length → ∃ v, self l (j : Int) = some v ∧ FitsV 40 d v) :
    ∀ (k j m : Nat) (ns : List (List UInt8)) (ks : List V), i < j → j + k = l.length → k < m → ns.length ≤ j → ks.length ≤ j → (∀ s ∈ ns, s.length ≤ 40) → (∀ v ∈ ks, FitsV 40 d v) →
      ∃ v, F12l0 self n m l (i : Int) (j : Int) x0 x1 x2 x3 x4 x5 y0 y1 y2 y3 ns ks = some v ∧ FitsV 40 (d + 1) v := by
  intro k
  induction k with
  | zero =>
    intro j m ns ks h0 h1 h2 h3 h4 h5 h6
    obtain ⟨m, rfl⟩ : ∃ q, m = q + 1 := ⟨m - 1, by omega⟩
    simp only [F12l0, F12l0F]
    rw [decide_eq_false (by omega)]
    exact ⟨_, rfl, hy, h5, by simp only; omega, by simp only; omega, h6⟩
  | succ k ih =>
    intro j m ns ks h0 h1 h2 h3 h4 h5 h6
    obtain ⟨m, rfl⟩ : ∃ q, m = q + 1 := ⟨m - 1, by omega⟩
    have hlt : j < l.length := by omega
    have hw : IntKind.wrap .i64 ((j : Int) + 1) = ((j + 1 : Nat) : Int) := by rw [wrap64 (by omega) (by omega)]; omega
    simp only [F12l0, F12l0F]
    rw [decide_eq_true (by omega), inB_of hlt, Int.toNat_natCast]
    generalize hr : l.getD j _ = r
    have hrm : r ∈ l := hr ▸ getD_mem hlt _
    obtain ⟨q, hq, q0, q1⟩ := place (n := n) (v := r.1) (c := (j : Int)) (by omega) (by omega)
    simp only [cond_true, hq]
    by_cases he : q = (i : Int)
    · rw [show (q == (i : Int)) = true by simp [he]]
      obtain ⟨v, hv, hf⟩ := hs j h0 hlt
      simp only [cond_true, hv]
      have b1 : (ns.length + 1) * 16 ≤ maxRoom := by simp only [maxRoom]; omega
      have b2 : ns.length + 1 ≤ maxRoom := by simp only [maxRoom]; omega
      have b3 : (ks.length + 1) * 88 ≤ maxRoom := by simp only [maxRoom]; omega
      have b4 : ks.length + 1 ≤ maxRoom := by simp only [maxRoom]; omega
      simp only [List.length_cons, List.length_nil, Nat.zero_add, decide_eq_true b1, decide_eq_true b2, decide_eq_true b3, decide_eq_true b4, Bool.and_true, cond_true, hw]
      have hks : ∀ u ∈ ks ++ [v], FitsV 40 d u := by
        intro u hu
        rcases List.mem_append.1 hu with hu | hu
        · exact h6 u hu
        · rw [List.mem_singleton] at hu; exact hu ▸ hf
      cases r.2.2.2.2.2.2.1
      · exact ih (j + 1) m ns (ks ++ [v]) (by omega) (by omega) (by omega) (by omega) (by simp; omega) h5 hks
      · exact ih (j + 1) m (ns ++ [r.2.2.2.2.2.1]) (ks ++ [v]) (by omega) (by omega) (by omega) (by simp; omega) (by simp; omega) (fun s hs => by
          rcases List.mem_append.1 hs with hs | hs
          · exact h5 s hs
          · rw [List.mem_singleton] at hs; exact hs ▸ (ht r hrm).2) hks
    · rw [show (q == (i : Int)) = false by simp [he]]
      simp only [cond_false, hw]
      exact ih (j + 1) m ns ks (by omega) (by omega) (by omega) (by omega) (by omega) h5 h6

theorem tree_ok {l : List Raw} (hl : l.length ≤ 30) (ht : ∀ r ∈ l, r.2.2.2.2.1.length ≤ 40 ∧ r.2.2.2.2.2.1.length ≤ 40) : ∀ (d i n : Nat), i + d + 1 = l.length → 100 + d ≤ n → ∃ v, F12 n l (i : Int) = some v ∧ FitsV 40 (d + 1) v := by
  intro d
  induction d using Nat.strongRecOn with
  | ind d ih =>
    intro i n hi hn
    obtain ⟨n, rfl⟩ : ∃ q, n = q + 1 := ⟨n - 1, by omega⟩
    have hlt : i < l.length := by omega
    have hw : IntKind.wrap .i64 ((i : Int) + 1) = ((i + 1 : Nat) : Int) := by rw [wrap64 (by omega) (by omega)]; omega
    simp only [F12, F12B]
    rw [inB_of hlt, Int.toNat_natCast]
    generalize hr : l.getD i _ = r
    have hrm : r ∈ l := hr ▸ getD_mem hlt _
    simp only [cond_true, hw]
    exact tree_loop hl ht (d := d) (ht r hrm).1 (fun j hj hjl => by
      obtain ⟨v, hv, hf⟩ := ih (l.length - j - 1) (by omega) j n (by omega) (by omega)
      exact ⟨v, hv, fits_le (by omega) hf⟩) d (i + 1) n [] [] (by omega) (by omega) (by omega) (by simp) (by simp) (by simp) (by simp)

theorem okv_of {B : Nat} : ∀ {d : Nat} {v : V}, FitsV B d v → RightN d v → OKV B d v
  | 0, _, h, _ => h.elim
  | _ + 1, _, ⟨_, _, h3, h4, h5⟩, ⟨r1, r2, r3⟩ => ⟨h3, h4, fun h => ⟨r1 h, r2⟩, fun k hk => okv_of (h5 k hk) (r3 k hk)⟩

theorem OKV.succ {B : Nat} : ∀ {d : Nat} {v : V}, OKV B d v → OKV B (d + 1) v
  | 0, _, h => h.elim
  | _ + 1, _, ⟨h1, h2, h3, h5⟩ => ⟨h1, h2, h3, fun k hk => (h5 k hk).succ⟩

theorem OKV.le {B : Nat} {v : V} {d e : Nat} (h : d ≤ e) (hv : OKV B d v) : OKV B e v := by
  induction h with
  | refl => exact hv
  | step _ ih => exact ih.succ

theorem patchAll_pure (l m : List Raw) {n : Nat} (hn : 100000 + l.length + m.length < n) (hl : l.length ≤ 9223372036854775807) (hm : m.length ≤ 9223372036854775807) : F3 n l m = some true := by
  unfold F3
  obtain ⟨b1, e1, f1⟩ := F9_ok l (n := n) (by omega) hl
  obtain ⟨b2, e2, f2⟩ := F9_ok m (n := n) (by omega) hm
  rw [e1]
  cases b1
  · simp only [Bool.not_false, cond_true, awake_ok]
  simp only [Bool.not_true, cond_false]
  rw [e2]
  cases b2
  · simp only [Bool.not_false, cond_true, awake_ok]
  simp only [Bool.not_true, cond_false]
  obtain ⟨l0, l1, l2⟩ := f1 rfl
  obtain ⟨m0, m1, m2⟩ := f2 rfl
  obtain ⟨v, v1, v2⟩ := tree_ok l1 l2 (l.length - 1) 0 n (by omega) (by omega)
  obtain ⟨p, p1, p2⟩ := tree_ok m1 m2 (m.length - 1) 0 n (by omega) (by omega)
  have v1' : F12 n l 0 = some v := v1
  have p1' : F12 n m 0 = some p := p1
  have v2' : FitsV 40 30 v := fits_le (by omega) v2
  have p2' : FitsV 40 30 p := fits_le (by omega) p2
  obtain ⟨c1, c2, c3⟩ := check_ok full_tabs 40 (by omega) 30 v v2'
  obtain ⟨d1, d2, d3⟩ := check_ok full_tabs 40 (by omega) 30 p p2'
  have c2' : F13 n (some tabs) v = some c1 := c2 n (by omega)
  have d2' : F13 n (some tabs) p = some d1 := d2 n (by omega)
  rw [F11_ok (show 90000 < n by omega)]
  simp only [v1', p1', V.eta, c2', d2']
  cases c1
  · simp only [Bool.not_false, cond_true, awake_ok]
  simp only [Bool.not_true, cond_false]
  cases d1
  · simp only [Bool.not_false, cond_true, awake_ok]
  simp only [Bool.not_true, cond_false]
  have vo := okv_of v2' (c3 rfl)
  have po := okv_of p2' (d3 rfl)
  obtain ⟨g1, g2⟩ := merge_both (by omega) (by omega) 30 v p n vo po (by omega)
  obtain ⟨h1, h2⟩ := merge_both (by omega) (by omega) 30 none0 p n (none0_okv (A := 40) po) po (by omega)
  have h1' : F15 n ⟨0, false, 0, [], [], []⟩ p = some (mrg 30 none0 p) := h1
  have h2' : F16 n ⟨0, false, 0, [], [], []⟩ p = some (mrg 30 none0 p) := h2
  simp only [g1, g2, h1', h2', same_self (by omega) 30 _ n (mrg_okv 30 v p vo po).sz (by omega), same_self (by omega) 30 _ n (mrg_okv 30 none0 p (none0_okv (A := 40) po) po).sz (by omega), cond_true, awake_ok]

end Go.Proofs.Ytdkelhdlfeendaa.Ab.Pm

/- bare, diff and value.Equal: what they compute. -/
namespace Go.Proofs.Ytdkelhdlfeendaa.Ab.Pm
open Go Go.RowKit Go.Proofs
set_option linter.unusedSimpArgs false
set_option linter.unusedVariables false

theorem rooms {a : Nat} {b : Nat} (ha : a ≤ 2000) (hb : b ≤ 2000) : (decide ((a + 1) * 16 ≤ maxRoom) && decide (a + 1 ≤ maxRoom)) = true ∧ (decide ((b + 1) * 88 ≤ maxRoom) && decide (b + 1 ≤ maxRoom)) = true := by
  have h1 : (a + 1) * 16 ≤ maxRoom := by simp only [maxRoom]; omega
  have h2 : a + 1 ≤ maxRoom := by simp only [maxRoom]; omega
  have h3 : (b + 1) * 88 ≤ maxRoom := by simp only [maxRoom]; omega
  have h4 : b + 1 ≤ maxRoom := by simp only [maxRoom]; omega
  rw [decide_eq_true h1, decide_eq_true h2, decide_eq_true h3, decide_eq_true h4]
  exact ⟨rfl, rfl⟩

def bareM (f : V → V) (l : List Mem2) : List Mem2 := (l.filter fun e => e.2.kind != 1).map fun e => (e.1, f e.2)

def bareV : Nat → V → V
  | 0, v => v
  | d + 1, v => if v.kind = 6 then objM (bareM (bareV d) (prs v)) else v

theorem bare_loop {self : V → Option V} {f : V → V} {n : Nat} {v : V} (hvl : v.names.length = v.kids.length) (hl : v.kids.length ≤ 1000) (hs : ∀ k ∈ v.kids, self k = some (f k)) {x0 x2 : Int} {x1 : Bool} {x3 : List UInt8} {x4 : List (List UInt8)} {x5 : List V} :
    ∀ (j i m : Nat) (out : List Mem2), i + j = v.kids.length → j < m → out.length ≤ i →
      F19l0 self n m (i : Int) v.kind v.b v.n v.s v.names v.kids x0 x1 x2 x3 x4 x5 6 false 0 [] (nms out) (kds out) = some (objM (out ++ bareM f ((prs v).drop i))) := by
  have hlen : (prs v).length = v.kids.length := by simp [prs, hvl]
  intro j
  induction j with
  | zero =>
    intro i m out q1 q2 q3
    obtain ⟨m, rfl⟩ : ∃ q, m = q + 1 := ⟨m - 1, by omega⟩
    simp only [F19l0, F19l0F]
    rw [decide_eq_false (by omega), List.drop_eq_nil_of_le (by omega)]
    simp [bareM, objM]
  | succ j ih =>
    intro i m out q1 q2 q3
    obtain ⟨m, rfl⟩ : ∃ q, m = q + 1 := ⟨m - 1, by omega⟩
    have hlt : i < v.kids.length := by omega
    have hlt2 : i < v.names.length := by omega
    have hlt3 : i < (prs v).length := by omega
    have hq1 : (prs v)[i] = (v.names[i], v.kids[i]) := by simp [prs]
    have hgn : v.names.getD i (Ty.dflt .str) = v.names[i] := by rw [List.getD_eq_getElem?_getD, List.getElem?_eq_getElem hlt2, Option.getD_some]
    have hgk : v.kids.getD i (Ty.dflt .value) = v.kids[i] := by rw [List.getD_eq_getElem?_getD, List.getElem?_eq_getElem hlt, Option.getD_some]
    have hw : IntKind.wrap .i64 ((i : Int) + 1) = ((i + 1 : Nat) : Int) := by rw [wrap64 (by omega) (by omega)]; omega
    obtain ⟨b1, b2⟩ := rooms (a := (nms out).length) (b := (kds out).length) (by rw [nms_length]; omega) (by rw [kds_length]; omega)
    rw [List.drop_eq_getElem_cons hlt3, hq1]
    simp only [F19l0, F19l0F]
    rw [decide_eq_true (by omega), inB_of hlt, inB_of hlt2, Int.toNat_natCast, hgn, hgk]
    simp only [cond_true, List.length_cons, List.length_nil, Nat.zero_add, b1, b2, hw, hs _ (List.getElem_mem hlt)]
    by_cases hk : v.kids[i].kind = 1
    · rw [show (v.kids[i].kind != 1) = false by simp [hk]]
      simp only [cond_false]
      refine (ih (i + 1) m out (by omega) (by omega) (by omega)).trans ?_
      simp [bareM, hk]
    · rw [show (v.kids[i].kind != 1) = true by simp [hk]]
      simp only [cond_true]
      have := ih (i + 1) m (out ++ [(v.names[i], f v.kids[i])]) (by omega) (by omega) (by simp; omega)
      refine Eq.trans ?_ (this.trans ?_)
      · simp [nms, kds]
      · simp [bareM, hk]

theorem bare_ok : ∀ (d : Nat) (v : V) (n : Nat), Good d v → 30 + d ≤ n → F19 n v = some (bareV d v)
  | 0, _, _, h, _ => h.elim
  | d + 1, v, n, hv, hn => by
    obtain ⟨n, rfl⟩ : ∃ q, n = q + 1 := ⟨n - 1, by omega⟩
    obtain ⟨h1, h2, h3, h4, h5, h6⟩ := hv
    simp only [F19, F19B, bareV]
    by_cases hk : v.kind = 6
    · rw [show (v.kind != 6) = false by simp [hk], if_pos hk]
      simp only [cond_false]
      exact bare_loop (h3 hk).1 (by omega) (fun k hk => bare_ok d k n (h6 k hk) (by omega)) v.kids.length 0 n [] (by omega) (by omega) (by simp)
    · rw [show (v.kind != 6) = true by simp [hk], if_neg hk]
      simp only [cond_true, V.eta]

theorem bareV_kind (d : Nat) (v : V) : (bareV d v).kind = v.kind := by
  cases d with
  | zero => rfl
  | succ d =>
    simp only [bareV]
    split
    · rename_i h; exact h.symm
    · rfl

/-- Without Nulls among members. -/
def BareP : Nat → V → Prop
  | 0, _ => False
  | d + 1, v => v.kind = 6 → ∀ k ∈ v.kids, k.kind ≠ 1 ∧ BareP d k

theorem bareM_nodup {f : V → V} {l : List Mem2} (h : (nms l).Nodup) : (nms (bareM f l)).Nodup := by
  have e : nms (bareM f l) = nms (l.filter fun e => e.2.kind != 1) := by simp [nms, bareM, List.map_map, Function.comp_def]
  rw [e]
  exact List.Pairwise.sublist (List.Sublist.map _ List.filter_sublist) h

theorem bareV_good : ∀ (d : Nat) (v : V), Good d v → Good d (bareV d v) ∧ BareP d (bareV d v)
  | 0, _, h => h.elim
  | d + 1, v, hv => by
    obtain ⟨h1, h2, h3, h4, ⟨h5, h5'⟩, h6⟩ := hv
    by_cases hk : v.kind = 6
    · obtain ⟨a1, a2, a3⟩ := h3 hk
      have hl : (bareM (bareV d) (prs v)).length ≤ 4 := by
        simp only [bareM, List.length_map]
        exact Nat.le_trans (List.length_filter_le _ _) (by simp [prs]; omega)
      have hm : ∀ e ∈ bareM (bareV d) (prs v), e.1 ∈ v.names ∧ ∃ k ∈ v.kids, k.kind ≠ 1 ∧ e.2 = bareV d k := by
        intro e he
        obtain ⟨a, ha, rfl⟩ := List.mem_map.1 he
        obtain ⟨ha, hk1⟩ := List.mem_filter.1 ha
        exact ⟨(List.of_mem_zip ha).1, a.2, (List.of_mem_zip ha).2, by simpa using hk1, rfl⟩
      simp only [bareV, if_pos hk]
      refine ⟨⟨by simp only [objM]; rw [nms_length]; exact hl, by simp only [objM]; rw [kds_length]; exact hl, fun _ => ⟨by simp only [objM]; rw [nms_length, kds_length], bareM_nodup (by rw [nms_prs a1]; exact a2), rfl, rfl, rfl⟩, fun h => absurd rfl h, ⟨by simp [objM], fun x hx => ?_⟩, fun k hk => ?_⟩, fun _ k hk => ?_⟩
      · obtain ⟨e, he, rfl⟩ := List.mem_map.1 (show x ∈ (bareM (bareV d) (prs v)).map (·.1) from hx)
        exact h5' _ (hm e he).1
      · obtain ⟨e, he, rfl⟩ := List.mem_map.1 (show k ∈ (bareM (bareV d) (prs v)).map (·.2) from hk)
        obtain ⟨_, k, hk, _, e2⟩ := hm e he
        rw [e2]; exact (bareV_good d k (h6 k hk)).1
      · obtain ⟨e, he, rfl⟩ := List.mem_map.1 (show k ∈ (bareM (bareV d) (prs v)).map (·.2) from hk)
        obtain ⟨_, k, hk, hk1, e2⟩ := hm e he
        rw [e2, bareV_kind]; exact ⟨hk1, (bareV_good d k (h6 k hk)).2⟩
    · simp only [bareV, if_neg hk]
      exact ⟨⟨h1, h2, h3, h4, ⟨h5, h5'⟩, h6⟩, fun h => absurd h hk⟩

/-! ### diff -/

def nullV : V := ⟨1, false, 0, [], [], []⟩
def goneM (v w : List Mem2) : List Mem2 := (v.filter fun e => !(nms w).contains e.1).map fun e => (e.1, nullV)
def keptM (f : V → V → V) (v w : List Mem2) : List Mem2 := w.map fun q => (q.1, f ((look v q.1).getD none0) q.2)

def diffV : Nat → V → V → V
  | 0, _, w => w
  | d + 1, v, w => if w.kind = 6 then objM (goneM (oldM v) (prs w) ++ keptM (diffV d) (oldM v) (prs w)) else w

theorem pos_neg {ns : List (List UInt8)} {x : List UInt8} : decide (pos ns x < 0) = !ns.contains x := by
  unfold pos
  by_cases h : x ∈ ns
  · rw [if_pos h, decide_eq_false (by omega)]
    simp [h]
  · rw [if_neg h]
    simp [h]

theorem F18_else {n : Nat} {v : V} {x : List UInt8} (hk : v.kind ≠ 6) (hn : 0 < n) : F18 n v x = some (-1) := by
  obtain ⟨n, rfl⟩ : ∃ q, n = q + 1 := ⟨n - 1, by omega⟩
  unfold F18
  simp only [F18l0, F18l0F]
  rw [show (v.kind == 6) = false by simp [hk]]
  simp

theorem look_at {v : V} (hl : v.names.length = v.kids.length) (hd : v.names.Nodup) {x : List UInt8} {k : Nat} (hk : v.names[k]? = some x) : look (prs v) x = v.kids[k]? := by
  have hkl := (List.getElem?_eq_some_iff.1 hk).1
  have hkk : k < v.kids.length := by omega
  have hin : (x, v.kids[k]) ∈ prs v := by
    have h1 : (prs v)[k]'(by simp [prs]; omega) = (v.names[k], v.kids[k]) := by simp [prs]
    have h2 : v.names[k] = x := (List.getElem?_eq_some_iff.1 hk).2
    rw [← h2, ← h1]
    exact List.getElem_mem _
  have := look_in (by rw [nms_prs hl]; exact hd) hin
  rw [this, List.getElem?_eq_getElem hkk]

theorem diff_l2 {self : V → V → Option V} {f : V → V → V} {n A B : Nat} {v w : V} (hA : A ≤ 400) (hB : B ≤ 400) {d : Nat} (hv : OKV A (d + 1) v) (hw : OKV B (d + 1) w) (hk : w.kind = 6) (hn : 2100 ≤ n) (hs : ∀ a b, OKV A d a → OKV B d b → self a b = some (f a b))
    {x0 x2 : Int} {x1 : Bool} {x3 : List UInt8} {x4 : List (List UInt8)} {x5 : List V} :
    ∀ (j i m : Nat) (out : List Mem2), i + j = w.names.length → j < m → out.length ≤ 500 + i →
      F20l2 self n m (i : Int) v.kind v.b v.n v.s v.names v.kids w.kind w.b w.n w.s w.names w.kids x0 x1 x2 x3 x4 x5 6 false 0 [] (nms out) (kds out) = some (objM (out ++ keptM f (oldM v) ((prs w).drop i))) := by
  obtain ⟨w1, w2⟩ := hw.2.2.1 hk
  have hwl := hw.1
  have hvl := hv.1
  have hlen : (prs w).length = w.kids.length := by simp [prs, w1]
  intro j
  induction j with
  | zero =>
    intro i m out q1 q2 q3
    obtain ⟨m, rfl⟩ : ∃ q, m = q + 1 := ⟨m - 1, by omega⟩
    simp only [F20l2, F20l2F]
    rw [decide_eq_false (by omega), List.drop_eq_nil_of_le (by omega)]
    simp [keptM, objM]
  | succ j ih =>
    intro i m out q1 q2 q3
    obtain ⟨m, rfl⟩ : ∃ q, m = q + 1 := ⟨m - 1, by omega⟩
    have hlt2 : i < w.names.length := by omega
    have hlt : i < w.kids.length := by omega
    have hlt3 : i < (prs w).length := by omega
    have hq1 : (prs w)[i] = (w.names[i], w.kids[i]) := by simp [prs]
    have hgn : w.names.getD i (Ty.dflt .str) = w.names[i] := by rw [List.getD_eq_getElem?_getD, List.getElem?_eq_getElem hlt2, Option.getD_some]
    have hgk : w.kids.getD i (Ty.dflt .value) = w.kids[i] := by rw [List.getD_eq_getElem?_getD, List.getElem?_eq_getElem hlt, Option.getD_some]
    have hw' : IntKind.wrap .i64 ((i : Int) + 1) = ((i + 1 : Nat) : Int) := by rw [wrap64 (by omega) (by omega)]; omega
    obtain ⟨b1, b2⟩ := rooms (a := (nms out).length) (b := (kds out).length) (by rw [nms_length]; omega) (by rw [kds_length]; omega)
    have hkw : OKV B d w.kids[i] := hw.2.2.2 _ (List.getElem_mem hlt)
    -- the step, with whatever was there
    have step : ∀ o : V, OKV A d o → (look (oldM v) w.names[i]).getD none0 = o → F20j3 self n (F20l2 self n m) (i : Int) v.kind v.b v.n v.s v.names v.kids w.kind w.b w.n w.s w.names w.kids x0 x1 x2 x3 x4 x5 6 false 0 [] (nms out) (kds out) o.kind o.b o.n o.s o.names o.kids = some (objM (out ++ keptM f (oldM v) ((prs w).drop i))) := by
      intro o ho hlo
      unfold F20j3
      rw [inB_of hlt2, inB_of hlt, Int.toNat_natCast, hgn, hgk]
      simp only [cond_true, V.eta, hs o _ ho hkw, List.length_cons, List.length_nil, Nat.zero_add, b1, b2, hw']
      have := ih (i + 1) m (out ++ [(w.names[i], f o w.kids[i])]) (by omega) (by omega) (by simp; omega)
      refine Eq.trans ?_ (this.trans ?_)
      · simp [nms, kds]
      · rw [List.drop_eq_getElem_cons hlt3, hq1]
        simp [keptM, hlo]
    simp only [F20l2, F20l2F]
    rw [decide_eq_true (by omega), inB_of hlt2, Int.toNat_natCast, hgn]
    simp only [cond_true, V.eta]
    by_cases hvk : v.kind = 6
    · obtain ⟨v1, v2⟩ := hv.2.2.1 hvk
      have e0 : oldM v = prs v := by unfold oldM; rw [if_pos hvk]
      rw [F18_pos hvk v2 (by omega) (by omega)]
      simp only
      rcases pos_cases v2 w.names[i] with ⟨h1, h2⟩ | ⟨k, hkl, h2, hkn⟩
      · rw [h2, decide_eq_false (by omega)]
        simp only [cond_false]
        exact step none0 (none0_okv hkw) (by rw [e0, look_none (by rw [nms_prs v1]; exact h1)]; rfl)
      · have hkk : k < v.kids.length := by omega
        rw [h2, decide_eq_true (by omega), inB_of hkk, Int.toNat_natCast]
        simp only [cond_true]
        rw [show v.kids.getD k (Ty.dflt .value) = v.kids[k] by rw [List.getD_eq_getElem?_getD, List.getElem?_eq_getElem hkk, Option.getD_some]]
        exact step _ (hv.2.2.2 _ (List.getElem_mem hkk)) (by rw [e0, look_at v1 v2 hkn, List.getElem?_eq_getElem hkk]; rfl)
    · have e0 : oldM v = [] := by unfold oldM; rw [if_neg hvk]
      rw [F18_else hvk (by omega)]
      simp only
      rw [decide_eq_false (by omega)]
      simp only [cond_false]
      exact step none0 (none0_okv hkw) (by rw [e0]; rfl)

theorem diff_l1 {self : V → V → Option V} {f : V → V → V} {n A B : Nat} {v w : V} (hA : A ≤ 400) (hB : B ≤ 400) {d : Nat} (hv : OKV A (d + 1) v) (hw : OKV B (d + 1) w) (hk : w.kind = 6) (hvk : v.kind = 6) (hn : 2100 ≤ n) (hs : ∀ a b, OKV A d a → OKV B d b → self a b = some (f a b))
    {x0 x2 : Int} {x1 : Bool} {x3 : List UInt8} {x4 : List (List UInt8)} {x5 : List V} :
    ∀ (j i m : Nat) (out : List Mem2), i + j = v.names.length → j < m → out.length ≤ i →
      F20l1 self n m (i : Int) v.kind v.b v.n v.s v.names v.kids w.kind w.b w.n w.s w.names w.kids x0 x1 x2 x3 x4 x5 6 false 0 [] (nms out) (kds out) = some (objM (out ++ goneM ((prs v).drop i) (prs w) ++ keptM f (oldM v) (prs w))) := by
  obtain ⟨w1, w2⟩ := hw.2.2.1 hk
  obtain ⟨v1, v2⟩ := hv.2.2.1 hvk
  have hwl := hw.1
  have hvl := hv.1
  have hlen : (prs v).length = v.kids.length := by simp [prs, v1]
  intro j
  induction j with
  | zero =>
    intro i m out q1 q2 q3
    obtain ⟨m, rfl⟩ : ∃ q, m = q + 1 := ⟨m - 1, by omega⟩
    simp only [F20l1, F20l1F]
    rw [decide_eq_false (by omega), List.drop_eq_nil_of_le (by omega)]
    simp only [cond_false, F20j0]
    refine (diff_l2 hA hB hv hw hk hn hs w.names.length 0 n out (by omega) (by omega) (by omega)).trans ?_
    simp [goneM]
  | succ j ih =>
    intro i m out q1 q2 q3
    obtain ⟨m, rfl⟩ : ∃ q, m = q + 1 := ⟨m - 1, by omega⟩
    have hlt2 : i < v.names.length := by omega
    have hlt3 : i < (prs v).length := by omega
    have hq1 : (prs v)[i] = (v.names[i], v.kids[i]'(by omega)) := by simp [prs]
    have hgn : v.names.getD i (Ty.dflt .str) = v.names[i] := by rw [List.getD_eq_getElem?_getD, List.getElem?_eq_getElem hlt2, Option.getD_some]
    have hw' : IntKind.wrap .i64 ((i : Int) + 1) = ((i + 1 : Nat) : Int) := by rw [wrap64 (by omega) (by omega)]; omega
    obtain ⟨b1, b2⟩ := rooms (a := (nms out).length) (b := (kds out).length) (by rw [nms_length]; omega) (by rw [kds_length]; omega)
    simp only [F20l1, F20l1F]
    rw [decide_eq_true (by omega), show (v.kind == 6) = true by simp [hvk], inB_of hlt2, Int.toNat_natCast, hgn]
    simp only [cond_true, V.eta]
    rw [F18_pos hk w2 (by omega) (by omega)]
    simp only [pos_neg, List.length_cons, List.length_nil, Nat.zero_add, b1, b2, hw']
    by_cases hm : v.names[i] ∈ w.names
    · rw [show (!w.names.contains v.names[i]) = false by simp [hm]]
      simp only [cond_false]
      refine (ih (i + 1) m out (by omega) (by omega) (by omega)).trans ?_
      rw [List.drop_eq_getElem_cons hlt3, hq1]
      simp [goneM, nms_prs w1, hm]
    · rw [show (!w.names.contains v.names[i]) = true by simp [hm]]
      simp only [cond_true]
      have := ih (i + 1) m (out ++ [(v.names[i], nullV)]) (by omega) (by omega) (by simp; omega)
      refine Eq.trans ?_ (this.trans ?_)
      · simp [nms, kds, nullV]
      · rw [List.drop_eq_getElem_cons hlt3, hq1]
        simp [goneM, nms_prs w1, hm]

theorem diff_ok {A B : Nat} (hA : A ≤ 400) (hB : B ≤ 400) : ∀ (d : Nat) (v w : V) (n : Nat), OKV A d v → OKV B d w → 2100 + d ≤ n → F20 n v w = some (diffV d v w)
  | 0, _, _, _, h, _, _ => h.elim
  | d + 1, v, w, n, hv, hw, hn => by
    obtain ⟨n, rfl⟩ : ∃ q, n = q + 1 := ⟨n - 1, by omega⟩
    have hvl := hv.1
    have hwl := hw.1
    simp only [F20, F20B, diffV]
    by_cases hk : w.kind = 6
    · rw [show (w.kind != 6) = false by simp [hk], if_pos hk]
      simp only [cond_false]
      have hs : ∀ a b, OKV A d a → OKV B d b → F20 n a b = some (diffV d a b) := fun a b ha hb => diff_ok hA hB d a b n ha hb (by omega)
      by_cases hvk : v.kind = 6
      · refine (diff_l1 hA hB hv hw hk hvk (by omega) hs v.names.length 0 n [] (by omega) (by omega) (by simp)).trans ?_
        simp [oldM, hvk]
      · have e0 : oldM v = [] := by unfold oldM; rw [if_neg hvk]
        have h2 := diff_l2 hA hB hv hw hk (n := n) (by omega) hs (x0 := 0) (x1 := false) (x2 := 0) (x3 := []) (x4 := []) (x5 := []) w.names.length 0 n [] (by omega) (by omega) (by simp)
        obtain ⟨m, hm⟩ : ∃ q, n = q + 1 := ⟨n - 1, by omega⟩
        rw [show ∀ a, F20l1 (F20 n) n n a = F20l1 (F20 n) n (m + 1) a from fun a => by rw [← hm]]
        simp only [F20l1, F20l1F]
        rw [show (v.kind == 6) = false by simp [hvk]]
        simp only [cond_false, F20j0]
        have h3 : some (objM ([] ++ keptM (diffV d) (oldM v) ((prs w).drop 0))) = some (objM (goneM (oldM v) (prs w) ++ keptM (diffV d) (oldM v) (prs w))) := by
          rw [e0]; simp [goneM]
        rw [← h3]
        cases decide ((0 : Int) < (v.names.length : Int)) <;> exact h2
    · rw [show (w.kind != 6) = true by simp [hk], if_neg hk]
      simp only [cond_true, V.eta]

end Go.Proofs.Ytdkelhdlfeendaa.Ab.Pm

/- What diff makes of two values, merged into the first, is Equal the second. -/
namespace Go.Proofs.Ytdkelhdlfeendaa.Ab.Pm
open Go Go.RowKit Go.Proofs
set_option linter.unusedSimpArgs false
set_option linter.unusedVariables false

theorem get_put {m : List (List UInt8 × Int)} {k x : List UInt8} {v : Int} : mapGet (Ty.beq .str) (mapPut (Ty.beq .str) m k v) x = if x = k then some v else mapGet (Ty.beq .str) m x := by
  have t : ∀ a b : List UInt8, a = b → Ty.beq .str a b = true := fun a b h => by
    show (a == b) = true
    exact beq_iff_eq.2 h
  have f : ∀ a b : List UInt8, a ≠ b → Ty.beq .str a b = false := fun a b h => by
    show (a == b) = false
    exact beq_eq_false_iff_ne.2 h
  induction m with
  | nil =>
    simp only [mapPut, mapGet]
    by_cases h : x = k
    · rw [t _ _ h, if_pos h]; rfl
    · rw [f _ _ h, if_neg h]; rfl
  | cons p m ih =>
    by_cases hk : k = p.1
    · simp only [mapPut, t _ _ hk, cond_true, mapGet]
      by_cases h : x = k
      · rw [t _ _ h, if_pos h]; rfl
      · rw [f _ _ h, if_neg h, f _ _ (hk ▸ h)]; rfl
    · simp only [mapPut, f _ _ hk, cond_false, mapGet, ih]
      by_cases h : x = p.1
      · have : x ≠ k := fun e => hk (e ▸ h)
        simp only [if_neg this]
      · rw [f _ _ h]; rfl

def atL : List (List UInt8) → Int → List (List UInt8 × Int) → List (List UInt8 × Int)
  | [], _, m => m
  | x :: l, j, m => atL l (j + 1) (mapPut (Ty.beq .str) m x j)

theorem atL_none {x : List UInt8} : ∀ {l : List (List UInt8)} {j : Int} {m : List (List UInt8 × Int)}, x ∉ l → mapGet (Ty.beq .str) (atL l j m) x = mapGet (Ty.beq .str) m x
  | [], _, _, _ => rfl
  | y :: l, j, m, h => by
    simp only [List.mem_cons, not_or] at h
    rw [atL, atL_none h.2, get_put, if_neg h.1]

theorem atL_at {x : List UInt8} : ∀ {l : List (List UInt8)} {k : Nat} {j : Int} {m : List (List UInt8 × Int)}, l.Nodup → l[k]? = some x → mapGet (Ty.beq .str) (atL l j m) x = some (j + (k : Int))
  | [], k, _, _, _, h => by simp at h
  | y :: l, 0, j, m, hd, h => by
    simp only [List.getElem?_cons_zero, Option.some.injEq] at h
    subst h
    rw [atL, atL_none (List.nodup_cons.1 hd).1, get_put, if_pos rfl]
    simp
  | y :: l, k + 1, j, m, hd, h => by
    simp only [List.getElem?_cons_succ] at h
    rw [atL, atL_at (List.nodup_cons.1 hd).2 h]
    congr 1; omega

/-- The same, but for the order of members. -/
def Eqv : Nat → V → V → Prop
  | 0, _, _ => False
  | d + 1, a, b => a.kind = b.kind ∧ a.b = b.b ∧ a.n = b.n ∧ a.s = b.s ∧ a.kids.length = b.kids.length ∧ a.names.length = b.names.length ∧ b.names.Nodup ∧ b.names.length ≤ 1000 ∧ b.kids.length ≤ 1000 ∧
    ∀ (i : Nat) (u : V), a.kids[i]? = some u → ∃ (k : Nat) (w : V), b.kids[k]? = some w ∧ (i < a.names.length → b.names[k]? = a.names[i]? ∧ k < b.names.length) ∧ (a.names.length ≤ i → k = i) ∧ Eqv d u w

theorem equal_l0 {self : V → V → Option Bool} {n : Nat} {k1 k2 n1 n2 : Int} {b1 b2 : Bool} {s1 s2 : List UInt8} {ns1 ns2 : List (List UInt8)} {ks1 ks2 : List V} {r : Option Bool} :
    ∀ (suf pre : List (List UInt8)) (m : Nat) (t : List (List UInt8 × Int)), suf.length < m → (pre ++ suf).length ≤ 1000 →
      F21l1 self n n (atL suf (pre.length : Int) t) ks1 (ks1.length : Int) 0 k1 b1 n1 s1 ns1 ks1 k2 b2 n2 s2 ns2 ks2 = r →
      F21l0 self n m t (pre ++ suf) ((pre ++ suf).length : Int) (pre.length : Int) k1 b1 n1 s1 ns1 ks1 k2 b2 n2 s2 ns2 ks2 = r
  | [], pre, m, t, hm, hl, h => by
    obtain ⟨m, rfl⟩ : ∃ q, m = q + 1 := ⟨m - 1, by omega⟩
    simp only [F21l0, F21l0F, List.append_nil]
    rw [decide_eq_false (by omega)]
    exact h
  | x :: suf, pre, m, t, hm, hl, h => by
    obtain ⟨m, rfl⟩ : ∃ q, m = q + 1 := ⟨m - 1, by omega⟩
    have e : pre ++ x :: suf = (pre ++ [x]) ++ suf := by simp
    have hlen : pre.length ≤ 1000 := by simp at hl; omega
    have ih := equal_l0 (self := self) (n := n) (k1 := k1) (k2 := k2) (n1 := n1) (n2 := n2) (b1 := b1) (b2 := b2) (s1 := s1) (s2 := s2) (ns1 := ns1) (ns2 := ns2) (ks1 := ks1) (ks2 := ks2) (r := r) suf (pre ++ [x]) m (mapPut (Ty.beq .str) t x (pre.length : Int)) (by simp at hm; omega) (by rw [← e]; exact hl)
    rw [← e] at ih
    simp only [List.length_append, List.length_singleton, Int.natCast_add, Int.natCast_one] at ih
    simp only [F21l0, F21l0F]
    rw [lt_pre', inb_pre, get_pre, wrap64 (by omega) (by omega)]
    simp only [cond_true]
    refine Eq.trans ?_ (ih h)
    simp

theorem equal_l1 {self : V → V → Option Bool} {n d : Nat} {a b : V} (hab : Eqv (d + 1) a b) (hs : ∀ u w, Eqv d u w → self u w = some true) :
    ∀ (j i m : Nat), i + j = a.kids.length → j < m → F21l1 self n m (atL b.names 0 []) a.kids (a.kids.length : Int) (i : Int) a.kind a.b a.n a.s a.names a.kids b.kind b.b b.n b.s b.names b.kids = some true := by
  obtain ⟨h1, h2, h3, h4, h5, h6, h7, h8, h9, h10⟩ := hab
  intro j
  induction j with
  | zero =>
    intro i m q1 q2
    obtain ⟨m, rfl⟩ : ∃ q, m = q + 1 := ⟨m - 1, by omega⟩
    simp only [F21l1, F21l1F]
    rw [decide_eq_false (by omega)]
    rfl
  | succ j ih =>
    intro i m q1 q2
    obtain ⟨m, rfl⟩ : ∃ q, m = q + 1 := ⟨m - 1, by omega⟩
    have hlt : i < a.kids.length := by omega
    have hgk : a.kids.getD i (Ty.dflt .value) = a.kids[i] := by rw [List.getD_eq_getElem?_getD, List.getElem?_eq_getElem hlt, Option.getD_some]
    have hw' : IntKind.wrap .i64 ((i : Int) + 1) = ((i + 1 : Nat) : Int) := by rw [wrap64 (by omega) (by omega)]; omega
    obtain ⟨k, w, hk, hk1, hk2, hk3⟩ := h10 i _ (List.getElem?_eq_getElem hlt)
    obtain ⟨hkl, hkw⟩ := List.getElem?_eq_some_iff.1 hk
    have step : F21j2 self n (F21l1 self n m) (atL b.names 0 []) (k : Int) a.kids (a.kids.length : Int) (i : Int) a.kind a.b a.n a.s a.names a.kids b.kind b.b b.n b.s b.names b.kids a.kids[i].kind a.kids[i].b a.kids[i].n a.kids[i].s a.kids[i].names a.kids[i].kids = some true := by
      unfold F21j2
      rw [decide_eq_false (by omega), inB_of hkl, Int.toNat_natCast]
      rw [show b.kids.getD k (Ty.dflt .value) = w by rw [List.getD_eq_getElem?_getD, hk, Option.getD_some]]
      simp only [cond_false, cond_true, V.eta, hs _ _ hk3, Bool.not_true, hw']
      exact ih (i + 1) m (by omega) (by omega)
    simp only [F21l1, F21l1F]
    rw [decide_eq_true (by omega), inB_of hlt, Int.toNat_natCast, hgk]
    simp only [cond_true]
    by_cases hi : i < a.names.length
    · obtain ⟨e1, e2⟩ := hk1 hi
      rw [List.getElem?_eq_getElem hi] at e1
      have hget := atL_at (j := 0) (m := []) h7 e1
      rw [Int.zero_add] at hget
      rw [decide_eq_true (by omega), inB_of hi, show a.names.getD i (Ty.dflt .str) = a.names[i] by rw [List.getD_eq_getElem?_getD, List.getElem?_eq_getElem hi, Option.getD_some], hget]
      exact step
    · rw [decide_eq_false (by omega)]
      obtain rfl := hk2 (by omega)
      exact step

theorem equal_ok : ∀ (d : Nat) (a b : V) (n : Nat), Eqv d a b → 1100 + d ≤ n → F21 n a b = some true
  | 0, _, _, _, h, _ => h.elim
  | d + 1, a, b, n, hab, hn => by
    obtain ⟨n, rfl⟩ : ∃ q, n = q + 1 := ⟨n - 1, by omega⟩
    have hab' := hab
    obtain ⟨h1, h2, h3, h4, h5, h6, h7, h8, h9, h10⟩ := hab
    simp only [F21, F21B]
    rw [h1, h2, h3, h4, h5, h6]
    simp only [bne_self_eq_false, beq_self_eq_true, Bool.not_true, cond_false]
    refine equal_l0 b.names [] n [] (by omega) (by simpa using h8) ?_
    have := equal_l1 (n := n) hab' (fun u w h => equal_ok d u w n h (by omega)) a.kids.length 0 n (by omega) (by omega)
    rw [h1, h2, h3, h4] at this
    exact this

theorem eqv_refl : ∀ (d : Nat) (v : V), Good d v → Eqv d v v
  | 0, _, h => h.elim
  | d + 1, v, ⟨h1, h2, h3, h4, h5, h6⟩ => by
    refine ⟨rfl, rfl, rfl, rfl, rfl, rfl, ?_, by omega, by omega, fun i u hu => ⟨i, u, hu, fun hi => ⟨rfl, hi⟩, fun _ => rfl, eqv_refl d u (h6 u (List.mem_of_getElem? hu))⟩⟩
    by_cases hk : v.kind = 6
    · exact (h3 hk).2.1
    · rw [h4 hk]; exact List.nodup_nil

theorem diffV_kind (d : Nat) (v w : V) : (diffV d v w).kind = w.kind := by
  cases d with
  | zero => rfl
  | succ d =>
    simp only [diffV]
    split
    · rename_i h; exact h.symm
    · rfl

theorem goneM_mem {v w : List Mem2} {e : Mem2} : e ∈ goneM v w ↔ e.1 ∈ nms v ∧ e.1 ∉ nms w ∧ e.2 = nullV := by
  constructor
  · intro h
    obtain ⟨a, ha, rfl⟩ := List.mem_map.1 h
    obtain ⟨h1, h2⟩ := List.mem_filter.1 ha
    exact ⟨List.mem_map_of_mem (f := (·.1)) h1, by simpa using h2, rfl⟩
  · rintro ⟨h1, h2, h3⟩
    obtain ⟨a, ha, hae⟩ := List.mem_map.1 h1
    refine List.mem_map.2 ⟨a, List.mem_filter.2 ⟨ha, ?_⟩, ?_⟩
    · rw [hae]; simp [h2]
    · rw [hae, ← h3]

theorem keptM_mem {f : V → V → V} {v w : List Mem2} {e : Mem2} (h : e ∈ keptM f v w) : ∃ q, (e.1, q) ∈ w ∧ e.2 = f ((look v e.1).getD none0) q := by
  obtain ⟨a, ha, rfl⟩ := List.mem_map.1 h
  exact ⟨a.2, ha, rfl⟩

theorem keptM_nms {f : V → V → V} {v w : List Mem2} : nms (keptM f v w) = nms w := by simp [nms, keptM, List.map_map, Function.comp_def]

theorem dm_nodup {f : V → V → V} {v w : List Mem2} (hv : (nms v).Nodup) (hw : (nms w).Nodup) : (nms (goneM v w ++ keptM f v w)).Nodup := by
  have e : nms (goneM v w ++ keptM f v w) = nms (goneM v w) ++ nms (keptM f v w) := by simp [nms]
  rw [e, keptM_nms, List.nodup_append]
  refine ⟨?_, hw, ?_⟩
  · have e : nms (goneM v w) = nms (v.filter fun e => !(nms w).contains e.1) := by simp [nms, goneM, List.map_map, Function.comp_def]
    rw [e]
    exact List.Pairwise.sublist (List.Sublist.map _ List.filter_sublist) hv
  · intro a ha b hb he
    obtain ⟨x, hx, rfl⟩ := List.mem_map.1 ha
    exact (goneM_mem.1 hx).2.1 (he ▸ hb)

theorem nullV_okv {A B d : Nat} {k : V} (h : OKV B d k) : OKV A d nullV := by
  cases d with
  | zero => exact h.elim
  | succ d => exact ⟨by simp [nullV], by simp [nullV], fun h => by simp [nullV] at h, by simp [nullV]⟩

theorem dm_length {f : V → V → V} {v w : List Mem2} : (goneM v w ++ keptM f v w).length ≤ v.length + w.length := by
  have := List.length_filter_le (fun e : Mem2 => !(nms w).contains e.1) v
  simp only [goneM, keptM, List.length_append, List.length_map]
  omega

theorem old_of_look {v : List Mem2} {x : List UInt8} : (look v x).getD none0 = none0 ∨ (x, (look v x).getD none0) ∈ v := by
  cases h : look v x with
  | none => exact .inl rfl
  | some k => exact .inr (look_mem h)

theorem diffV_okv {A B : Nat} : ∀ (d : Nat) (v w : V), OKV A d v → OKV B d w → OKV (A + B) d (diffV d v w)
  | 0, _, _, h, _ => h.elim
  | d + 1, v, w, hv, hw => by
    by_cases hk : w.kind = 6
    · simp only [diffV, if_pos hk]
      obtain ⟨w1, w2⟩ := hw.2.2.1 hk
      have hl : (goneM (oldM v) (prs w) ++ keptM (diffV d) (oldM v) (prs w)).length ≤ A + B := by
        have h1 := dm_length (f := diffV d) (v := oldM v) (w := prs w)
        have h2 := oldM_length hv
        have h3 : (prs w).length ≤ B := by have h1 := hw.1; simp [prs]; omega
        omega
      refine ⟨by simp only [objM]; rw [nms_length]; exact hl, by simp only [objM]; rw [kds_length]; exact hl, fun _ => ⟨by simp only [objM]; rw [nms_length, kds_length], dm_nodup (oldM_nodup hv) (by rw [nms_prs w1]; exact w2)⟩, fun k hk => ?_⟩
      obtain ⟨e, he, rfl⟩ := List.mem_map.1 (show k ∈ (goneM (oldM v) (prs w) ++ keptM (diffV d) (oldM v) (prs w)).map (·.2) from hk)
      rcases List.mem_append.1 he with he | he
      · obtain ⟨h1, _, h3⟩ := goneM_mem.1 he
        obtain ⟨a, ha, _⟩ := List.mem_map.1 h1
        rw [h3]; exact nullV_okv (oldM_okv hv ha)
      · obtain ⟨q, hq, h3⟩ := keptM_mem he
        have hqo := prs_okv hw hq
        rw [h3]
        rcases old_of_look (v := oldM v) (x := e.1) with h | h
        · rw [h]; exact diffV_okv d _ _ (none0_okv hqo) hqo
        · exact diffV_okv d _ _ (oldM_okv hv h) hqo
    · simp only [diffV, if_neg hk]
      exact hw.mono (by omega)

theorem diffV_txt {t : Nat} : ∀ (d : Nat) (v w : V), TxtV t d v → TxtV t d w → TxtV t d (diffV d v w)
  | 0, _, _, h, _ => h.elim
  | d + 1, v, w, hv, hw => by
    by_cases hk : w.kind = 6
    · simp only [diffV, if_pos hk]
      have hv' : ∀ e ∈ oldM v, e.1.length ≤ t ∧ TxtV t d e.2 := by
        intro e he
        unfold oldM at he
        split at he
        · exact ⟨hv.2.1 _ (List.of_mem_zip he).1, hv.2.2 _ (List.of_mem_zip he).2⟩
        · cases he
      have hw' : ∀ e ∈ prs w, e.1.length ≤ t ∧ TxtV t d e.2 := fun e he => ⟨hw.2.1 _ (List.of_mem_zip he).1, hw.2.2 _ (List.of_mem_zip he).2⟩
      have hn : ∀ k z : V, z = none0 ∨ z = nullV → TxtV t d k → TxtV t d z := by
        intro k z hz h
        cases d with
        | zero => exact h.elim
        | succ d => rcases hz with rfl | rfl <;> exact ⟨by simp [none0, nullV], by simp [none0, nullV], by simp [none0, nullV]⟩
      have key : ∀ e ∈ goneM (oldM v) (prs w) ++ keptM (diffV d) (oldM v) (prs w), e.1.length ≤ t ∧ TxtV t d e.2 := by
        intro e he
        rcases List.mem_append.1 he with he | he
        · obtain ⟨h1, _, h3⟩ := goneM_mem.1 he
          obtain ⟨a, ha, hae⟩ := List.mem_map.1 h1
          have := hv' a ha
          rw [h3, ← hae]; exact ⟨this.1, hn _ _ (.inr rfl) this.2⟩
        · obtain ⟨q, hq, h3⟩ := keptM_mem he
          have hqo := hw' _ hq
          rw [h3]
          rcases old_of_look (v := oldM v) (x := e.1) with h | h
          · rw [h]; exact ⟨hqo.1, diffV_txt d _ _ (hn _ _ (.inl rfl) hqo.2) hqo.2⟩
          · exact ⟨hqo.1, diffV_txt d _ _ (hv' _ h).2 hqo.2⟩
      refine ⟨by simp [objM], fun s hs => ?_, fun k hk => ?_⟩
      · obtain ⟨e, he, rfl⟩ := List.mem_map.1 (show s ∈ (goneM (oldM v) (prs w) ++ keptM (diffV d) (oldM v) (prs w)).map (·.1) from hs)
        exact (key e he).1
      · obtain ⟨e, he, rfl⟩ := List.mem_map.1 (show k ∈ (goneM (oldM v) (prs w) ++ keptM (diffV d) (oldM v) (prs w)).map (·.2) from hk)
        exact (key e he).2
    · simp only [diffV, if_neg hk]
      exact hw

theorem nodup_sub_length {α : Type} [BEq α] [LawfulBEq α] : ∀ {l1 l2 : List α}, l1.Nodup → (∀ x ∈ l1, x ∈ l2) → l1.length ≤ l2.length
  | [], _, _, _ => Nat.zero_le _
  | a :: l1, l2, hd, h => by
    have ha := h a (by simp)
    have h1 := nodup_sub_length (l1 := l1) (l2 := l2.erase a) (List.nodup_cons.1 hd).2 (fun x hx => by
      have hne : x ≠ a := fun e => (List.nodup_cons.1 hd).1 (e ▸ hx)
      exact (List.mem_erase_of_ne hne).2 (h x (by simp [hx])))
    have h2 := List.length_erase_of_mem ha
    have h3 : 0 < l2.length := List.length_pos_of_mem ha
    simp only [List.length_cons]
    omega

theorem none0_good {d : Nat} {k : V} (h : Good d k) : Good d none0 := by
  cases d with
  | zero => exact h.elim
  | succ d => exact ⟨by simp [none0], by simp [none0], fun h => by simp [none0] at h, fun _ => rfl, ⟨by simp [none0], by simp [none0]⟩, by simp [none0]⟩

theorem oldM_good {d : Nat} {v : V} (hv : Good (d + 1) v) {e : Mem2} (h : e ∈ oldM v) : Good d e.2 := by
  unfold oldM at h
  split at h
  · exact hv.2.2.2.2.2 _ (List.of_mem_zip h).2
  · cases h

/-- Merged into the first, it is the second but for the order of members. -/
theorem merge_diff : ∀ (d : Nat) (v w : V), Good d v → Good d w → BareP d w → Eqv d (mrg d v (diffV d v w)) w
  | 0, _, _, h, _, _ => h.elim
  | d + 1, v, w, hv, hw, hb => by
    by_cases hk : w.kind = 6
    · obtain ⟨w1, w2, w3, w4, w5⟩ := hw.2.2.1 hk
      have hD : diffV (d + 1) v w = objM (goneM (oldM v) (prs w) ++ keptM (diffV d) (oldM v) (prs w)) := by simp only [diffV, if_pos hk]
      have hwn : (nms (prs w)).Nodup := by rw [nms_prs w1]; exact w2
      have hvn := oldM_nodup hv.okv
      have hdn : (nms (goneM (oldM v) (prs w) ++ keptM (diffV d) (oldM v) (prs w))).Nodup := dm_nodup hvn hwn
      have hR : mrg (d + 1) v (diffV (d + 1) v w) = objM (mrgM (mrg d) v (diffV (d + 1) v w)) := by
        show (if (diffV (d + 1) v w).kind = 6 then objM (mrgM (mrg d) v (diffV (d + 1) v w)) else diffV (d + 1) v w) = _
        rw [if_pos (by rw [diffV_kind]; exact hk)]
      have hprs : prs (diffV (d + 1) v w) = goneM (oldM v) (prs w) ++ keptM (diffV d) (oldM v) (prs w) := by rw [hD, prs_objM]
      have hRn : (nms (mrgM (mrg d) v (diffV (d + 1) v w))).Nodup := mrgM_nodup hv.okv (diffV_okv (d + 1) v w hv.okv hw.okv) (by rw [diffV_kind]; exact hk)
      have hwg : ∀ {x : List UInt8} {q : V}, (x, q) ∈ prs w → Good d q ∧ q.kind ≠ 1 ∧ BareP d q := fun h => ⟨hw.2.2.2.2.2 _ (List.of_mem_zip h).2, (hb hk _ (List.of_mem_zip h).2).1, (hb hk _ (List.of_mem_zip h).2).2⟩
      -- what it has is of the second
      have h1 : ∀ e ∈ mrgM (mrg d) v (diffV (d + 1) v w), ∃ q, (e.1, q) ∈ prs w ∧ Eqv d e.2 q := by
        intro e he
        rcases mrgM_mem he with ⟨a1, a2⟩ | ⟨o, k, a1, a2, a4, a3⟩ | ⟨k, a1, a4, a5, a3⟩
        · exfalso
          rw [hprs] at a2
          have hm : e.1 ∈ nms (goneM (oldM v) (prs w) ++ keptM (diffV d) (oldM v) (prs w)) := by
            have hen : e.1 ∈ nms (oldM v) := List.mem_map_of_mem (f := (·.1)) a1
            by_cases hc : e.1 ∈ nms (prs w)
            · rw [show nms (goneM (oldM v) (prs w) ++ keptM (diffV d) (oldM v) (prs w)) = nms (goneM (oldM v) (prs w)) ++ nms (keptM (diffV d) (oldM v) (prs w)) by simp [nms], keptM_nms]
              exact List.mem_append_right _ hc
            · exact List.mem_map.2 ⟨(e.1, nullV), List.mem_append_left _ (goneM_mem.2 ⟨hen, hc, rfl⟩), rfl⟩
          obtain ⟨a, ha, hae⟩ := List.mem_map.1 hm
          have := look_in hdn ha
          rw [hae, a2] at this
          cases this
        · rw [hprs] at a2
          rcases List.mem_append.1 (look_mem a2) with h | h
          · exact absurd (by have := (goneM_mem.1 h).2.2; simp only at this; rw [this]; rfl) a4
          · obtain ⟨q, hq, hqe⟩ := keptM_mem h
            have hlo : look (oldM v) e.1 = some o := look_in hvn a1
            simp only [hlo, Option.getD_some] at hqe
            obtain ⟨g1, g2, g3⟩ := hwg hq
            refine ⟨q, hq, ?_⟩
            rw [a3, hqe]
            exact merge_diff d o q (oldM_good hv a1) g1 g3
        · rw [hprs] at a1
          rcases List.mem_append.1 a1 with h | h
          · exact absurd (goneM_mem.1 h).1 a5
          · obtain ⟨q, hq, hqe⟩ := keptM_mem h
            have hlo : look (oldM v) e.1 = none := look_none a5
            simp only [hlo, Option.getD_none] at hqe
            obtain ⟨g1, g2, g3⟩ := hwg hq
            refine ⟨q, hq, ?_⟩
            rw [a3, hqe]
            exact merge_diff d none0 q (none0_good g1) g1 g3
      -- all of the second is there
      have h2 : ∀ x ∈ nms (prs w), x ∈ nms (mrgM (mrg d) v (diffV (d + 1) v w)) := by
        intro x hx
        obtain ⟨q, hq, rfl⟩ := List.mem_map.1 hx
        have hkm : (q.1, diffV d ((look (oldM v) q.1).getD none0) q.2) ∈ prs (diffV (d + 1) v w) := by
          rw [hprs]; exact List.mem_append_right _ (List.mem_map.2 ⟨q, hq, rfl⟩)
        have hkk : (diffV d ((look (oldM v) q.1).getD none0) q.2).kind ≠ 1 := by rw [diffV_kind]; exact (hwg hq).2.1
        by_cases hm : q.1 ∈ nms (oldM v)
        · obtain ⟨a, ha, hae⟩ := List.mem_map.1 hm
          refine List.mem_map.2 ⟨(a.1, mrg d a.2 (diffV d ((look (oldM v) q.1).getD none0) q.2)), List.mem_append_left _ (List.mem_filterMap.2 ⟨a, ha, ?_⟩), hae⟩
          unfold wasM
          rw [hae, look_in (by rw [hprs]; exact hdn) hkm]
          simp only
          rw [if_neg hkk]
        · exact List.mem_map.2 ⟨(q.1, mrg d none0 (diffV d ((look (oldM v) q.1).getD none0) q.2)), List.mem_append_right _ (List.mem_filterMap.2 ⟨_, hkm, by unfold newM; rw [if_pos ⟨hkk, hm⟩]⟩), rfl⟩
      have h3 : ∀ x ∈ nms (mrgM (mrg d) v (diffV (d + 1) v w)), x ∈ nms (prs w) := by
        intro x hx
        obtain ⟨e, he, rfl⟩ := List.mem_map.1 hx
        obtain ⟨q, hq, _⟩ := h1 e he
        exact List.mem_map.2 ⟨_, hq, rfl⟩
      have hlen : (mrgM (mrg d) v (diffV (d + 1) v w)).length = w.kids.length := by
        have e1 := nodup_sub_length hRn h3
        have e2 := nodup_sub_length hwn h2
        rw [nms_length, nms_length] at e1 e2
        have e3 : (prs w).length = w.kids.length := by simp [prs, w1]
        omega
      have hwl1 := hw.1
      have hwl2 := hw.2.1
      rw [hR]
      refine ⟨by rw [hk]; rfl, by rw [w3]; rfl, by rw [w4]; rfl, by rw [w5]; rfl, by simp only [objM]; rw [kds_length, hlen], by simp only [objM]; rw [nms_length, hlen, w1], w2, by omega, by omega, fun i u hu => ?_⟩
      simp only [objM] at hu ⊢
      obtain ⟨e, he, rfl⟩ : ∃ e, (mrgM (mrg d) v (diffV (d + 1) v w))[i]? = some e ∧ e.2 = u := by
        simp only [kds, List.getElem?_map, Option.map_eq_some_iff] at hu
        obtain ⟨e, h1, h2⟩ := hu
        exact ⟨e, h1, h2⟩
      obtain ⟨q, hq, hqe⟩ := h1 e (List.mem_of_getElem? he)
      obtain ⟨k, hkq⟩ := List.getElem?_of_mem hq
      have hkl := (List.getElem?_eq_some_iff.1 hkq).1
      have hk1 : k < w.names.length := by simp [prs] at hkl; omega
      have hk2 : k < w.kids.length := by omega
      have hkq2 : (prs w)[k]? = some (w.names[k], w.kids[k]) := by
        rw [List.getElem?_eq_getElem hkl]; simp [prs]
      rw [hkq] at hkq2
      simp only [Option.some.injEq, Prod.mk.injEq] at hkq2
      refine ⟨k, q, by rw [List.getElem?_eq_getElem hk2, hkq2.2], fun hi => ⟨?_, hk1⟩, fun hi => ?_, hqe⟩
      · simp only [nms, List.getElem?_map, he, Option.map_some]
        rw [List.getElem?_eq_getElem hk1, hkq2.1]
      · have := (List.getElem?_eq_some_iff.1 he).1
        rw [nms_length] at hi
        omega
    · have e1 : diffV (d + 1) v w = w := by simp only [diffV, if_neg hk]
      have e2 : mrg (d + 1) v w = w := by simp only [mrg, if_neg hk]
      rw [e1, e2]
      exact eqv_refl (d + 1) w hw

theorem patchMakes_pure (l m : List Int) {n : Nat} (hn : 100000 < n) : F8 n l m = some true := by
  unfold F8
  obtain ⟨x, x1, x2⟩ := Small_ok l (n := n) (by omega)
  obtain ⟨z, z1, z2⟩ := Small_ok m (n := n) (by omega)
  obtain ⟨y2, y3⟩ := bareV_good 5 z z2
  have y1 := bare_ok 5 z n z2 (by omega)
  have p1 := diff_ok (by omega) (by omega) 5 x (bareV 5 z) n x2.okv y2.okv (by omega)
  simp only [x1, z1, y1, V.eta, p1]
  by_cases h : (l.length : Int) > 60
  · rw [decide_eq_true h, awake_ok]
    rfl
  rw [decide_eq_false h]
  by_cases h' : (m.length : Int) > 60
  · rw [decide_eq_true h', awake_ok]
    rfl
  rw [decide_eq_false h']
  have po := diffV_okv 5 x (bareV 5 z) x2.okv y2.okv
  have pt := diffV_txt 5 x (bareV 5 z) x2.txt y2.txt
  obtain ⟨b, hb, _⟩ := check_ok full_tabs 8 (by omega) 5 (diffV 5 x (bareV 5 z)) (fits_of po (pt.mono (by omega)))
  simp only [cond_false, F11_ok (show 90000 < n by omega)]
  rw [show F13 n (some tabs) (diffV 5 x (bareV 5 z)) = some b from hb n (by omega)]
  simp only
  cases b
  · rw [awake_ok]; rfl
  · simp only [Bool.not_true, cond_false, (merge_both (by omega) (by omega) 5 x _ n x2.okv po (by omega)).1, equal_ok 5 _ _ n (merge_diff 5 x (bareV 5 z) x2 y2 y3) (by omega), cond_true, awake_ok]

end Go.Proofs.Ytdkelhdlfeendaa.Ab.Pm
