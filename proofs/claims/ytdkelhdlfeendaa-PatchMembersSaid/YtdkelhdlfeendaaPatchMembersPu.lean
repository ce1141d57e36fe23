/- What patch.Merge answers of two right values, member by member, and that the law PatchMembers' Lean function answers true. For every input. -/
import Derived.Test.YtdkelhdlfeendaaPatchEmptyPu
namespace Go.Proofs.Ytdkelhdlfeendaa.Ab
open Go
set_option linter.unusedSimpArgs false
set_option linter.unusedVariables false

abbrev Mem2 := List UInt8 × V
def nms (l : List Mem2) : List (List UInt8) := l.map (·.1)
def kds (l : List Mem2) : List V := l.map (·.2)
def prs (v : V) : List Mem2 := v.names.zip v.kids

theorem nms_prs {v : V} (h : v.names.length = v.kids.length) : nms (prs v) = v.names := List.map_fst_zip (Nat.le_of_eq h)
theorem kds_prs {v : V} (h : v.names.length = v.kids.length) : kds (prs v) = v.kids := List.map_snd_zip (Nat.le_of_eq h.symm)
theorem nms_length (l : List Mem2) : (nms l).length = l.length := List.length_map ..
theorem kds_length (l : List Mem2) : (kds l).length = l.length := List.length_map ..

/-- Where a name stands; -1. -/
def pos (ns : List (List UInt8)) (x : List UInt8) : Int := if x ∈ ns then (ns.idxOf x : Int) else -1

theorem nodup_at {ns : List (List UInt8)} (hd : ns.Nodup) {i j : Nat} {x : List UInt8} (hi : ns[i]? = some x) (hj : ns[j]? = some x) : i = j := by
  obtain ⟨h1, h2⟩ := List.getElem?_eq_some_iff.1 hi
  obtain ⟨h3, h4⟩ := List.getElem?_eq_some_iff.1 hj
  rcases Nat.lt_trichotomy i j with h | h | h
  · exact absurd (h2.trans h4.symm) (List.pairwise_iff_getElem.1 hd i j h1 h3 h)
  · exact h
  · exact absurd (h4.trans h2.symm) (List.pairwise_iff_getElem.1 hd j i h3 h1 h)

theorem pos_eq {ns : List (List UInt8)} (hd : ns.Nodup) {i : Nat} {x : List UInt8} (hi : ns[i]? = some x) : pos ns x = (i : Int) := by
  have hm : x ∈ ns := List.mem_of_getElem? hi
  unfold pos
  rw [if_pos hm]
  have hlt := List.idxOf_lt_length_of_mem hm
  have : ns[ns.idxOf x]? = some x := by rw [List.getElem?_eq_getElem hlt]; simp
  rw [nodup_at hd this hi]

theorem pos_none {ns : List (List UInt8)} {x : List UInt8} (h : x ∉ ns) : pos ns x = -1 := if_neg h

theorem pos_cases {ns : List (List UInt8)} (hd : ns.Nodup) (x : List UInt8) : (x ∉ ns ∧ pos ns x = -1) ∨ ∃ i, i < ns.length ∧ pos ns x = (i : Int) ∧ ns[i]? = some x := by
  by_cases h : x ∈ ns
  · obtain ⟨i, hi⟩ := List.getElem?_of_mem h
    exact .inr ⟨i, (List.getElem?_eq_some_iff.1 hi).1, pos_eq hd hi, hi⟩
  · exact .inl ⟨h, pos_none h⟩

theorem F29_pos {n : Nat} {ns : List (List UInt8)} {x : List UInt8} (hd : ns.Nodup) (hl : ns.length ≤ 16) (hn : 20 ≤ n) : F29 n ns x = some (pos ns x) := by
  by_cases hx : x ∈ ns
  · obtain ⟨q, hq⟩ := List.getElem?_of_mem hx
    have hql := (List.getElem?_eq_some_iff.1 hq).1
    rw [pos_eq hd hq]
    have key : ∀ j i m, i + j = q → j < m → F29l0 n m ns x (ns.length : Int) (i : Int) = some (q : Int) := by
      intro j
      induction j with
      | zero =>
        intro i m h1 h2
        obtain ⟨m, rfl⟩ : ∃ q, m = q + 1 := ⟨m - 1, by omega⟩
        obtain rfl : i = q := by omega
        simp only [F29l0, F29l0F]
        rw [decide_eq_true (by omega), inB_of hql, Int.toNat_natCast, List.getD_eq_getElem?_getD, hq, Option.getD_some, beq_self_eq_true]
        rfl
      | succ j ih =>
        intro i m h1 h2
        obtain ⟨m, rfl⟩ : ∃ q, m = q + 1 := ⟨m - 1, by omega⟩
        have hlt : i < ns.length := by omega
        have hne : (x == ns.getD (Int.toNat (i : Int)) (Ty.dflt .str)) = false := by
          rw [beq_eq_false_iff_ne, Int.toNat_natCast, List.getD_eq_getElem?_getD, List.getElem?_eq_getElem hlt, Option.getD_some]
          intro e
          have := nodup_at hd (by rw [List.getElem?_eq_getElem hlt, ← e]) hq
          omega
        simp only [F29l0, F29l0F]
        rw [decide_eq_true (by omega), inB_of hlt, hne]
        simp only [cond_true, cond_false]
        rw [wrap64 (by omega) (by omega)]
        exact ih (i + 1) m (by omega) (by omega)
    exact key q 0 n (by omega) (by omega)
  · rw [pos_none hx]
    exact F29_none hx hl hn

theorem F18_pos {n : Nat} {v : V} {x : List UInt8} (hk : v.kind = 6) (hd : v.names.Nodup) (hl : v.names.length ≤ 16) (hn : 20 ≤ n) : F18 n v x = some (pos v.names x) := by
  unfold F18
  have e6 : (v.kind == 6) = true := by simp [hk]
  rcases pos_cases hd x with ⟨h1, h2⟩ | ⟨q, hql, h2, hq⟩
  · rw [h2]
    have key : ∀ j i m, i + j = v.names.length → j < m → F18l0 n m x (i : Int) v.kind v.b v.n v.s v.names v.kids = some (-1) := by
      intro j
      induction j with
      | zero =>
        intro i m q1 q2
        obtain ⟨m, rfl⟩ : ∃ q, m = q + 1 := ⟨m - 1, by omega⟩
        simp only [F18l0, F18l0F]
        rw [decide_eq_false (by omega)]
        rfl
      | succ j ih =>
        intro i m q1 q2
        obtain ⟨m, rfl⟩ : ∃ q, m = q + 1 := ⟨m - 1, by omega⟩
        have hlt : i < v.names.length := by omega
        have hne : (v.names.getD (Int.toNat (i : Int)) (Ty.dflt .str) == x) = false := by
          rw [beq_eq_false_iff_ne]
          intro e
          exact h1 (e ▸ by rw [Int.toNat_natCast]; exact getD_mem hlt _)
        simp only [F18l0, F18l0F, e6]
        rw [decide_eq_true (by omega), inB_of hlt, hne]
        simp only [cond_true, cond_false]
        rw [wrap64 (by omega) (by omega)]
        exact ih (i + 1) m (by omega) (by omega)
    exact key v.names.length 0 n (by omega) (by omega)
  · rw [h2]
    have key : ∀ j i m, i + j = q → j < m → F18l0 n m x (i : Int) v.kind v.b v.n v.s v.names v.kids = some (q : Int) := by
      intro j
      induction j with
      | zero =>
        intro i m q1 q2
        obtain ⟨m, rfl⟩ : ∃ q, m = q + 1 := ⟨m - 1, by omega⟩
        obtain rfl : i = q := by omega
        simp only [F18l0, F18l0F, e6]
        rw [decide_eq_true (by omega), inB_of hql, Int.toNat_natCast, List.getD_eq_getElem?_getD, hq, Option.getD_some, beq_self_eq_true]
        rfl
      | succ j ih =>
        intro i m q1 q2
        obtain ⟨m, rfl⟩ : ∃ q, m = q + 1 := ⟨m - 1, by omega⟩
        have hlt : i < v.names.length := by omega
        have hne : (v.names.getD (Int.toNat (i : Int)) (Ty.dflt .str) == x) = false := by
          rw [beq_eq_false_iff_ne, Int.toNat_natCast, List.getD_eq_getElem?_getD, List.getElem?_eq_getElem hlt, Option.getD_some]
          intro e
          have := nodup_at hd (by rw [List.getElem?_eq_getElem hlt, e]) hq
          omega
        simp only [F18l0, F18l0F, e6]
        rw [decide_eq_true (by omega), inB_of hlt, hne]
        simp only [cond_true, cond_false]
        rw [wrap64 (by omega) (by omega)]
        exact ih (i + 1) m (by omega) (by omega)
    exact key q 0 n (by omega) (by omega)

/-- One member of the second value. -/
def stepM (mg : V → V → V) (out : List Mem2) (q : Mem2) : List Mem2 :=
  if q.1 ∈ nms out then
    (if q.2.kind = 1 then out.filter (fun e => !(e.1 == q.1)) else out.map fun e => if e.1 = q.1 then (e.1, mg e.2 q.2) else e)
  else (if q.2.kind = 1 then out else out ++ [(q.1, mg none0 q.2)])

theorem del_eq {x : List UInt8} : ∀ {out : List Mem2} {k : Nat}, (nms out).Nodup → (nms out)[k]? = some x → out.take k ++ out.drop (k + 1) = out.filter (fun e => !(e.1 == x))
  | [], k, _, h => by simp [nms] at h
  | e :: out, 0, hd, h => by
    simp only [nms, List.map_cons, List.getElem?_cons_zero, Option.some.injEq] at h
    subst h
    simp only [nms, List.map_cons, List.nodup_cons] at hd
    rw [List.filter_cons]
    simp only [beq_self_eq_true, Bool.not_true, Bool.false_eq_true, if_false, List.take_zero, List.nil_append, List.drop_succ_cons, List.drop_zero]
    symm
    rw [List.filter_eq_self]
    intro a ha
    have : a.1 ≠ e.1 := fun he => hd.1 (he ▸ List.mem_map_of_mem ha)
    simp [this]
  | e :: out, k + 1, hd, h => by
    simp only [nms, List.map_cons, List.getElem?_cons_succ] at h
    simp only [nms, List.map_cons, List.nodup_cons] at hd
    have hm : x ∈ out.map (·.1) := List.mem_of_getElem? h
    have hne : e.1 ≠ x := fun he => hd.1 (he ▸ hm)
    rw [List.filter_cons]
    simp only [beq_eq_false_iff_ne.2 hne, Bool.not_false, if_true, List.take_succ_cons, List.drop_succ_cons, List.cons_append]
    rw [del_eq hd.2 h]

theorem set_eq {x : List UInt8} {o : V} {f : V → V} : ∀ {out : List Mem2} {k : Nat}, (nms out).Nodup → out[k]? = some (x, o) → out.set k (x, f o) = out.map fun e => if e.1 = x then (e.1, f e.2) else e
  | [], k, _, h => by simp at h
  | e :: out, 0, hd, h => by
    simp only [List.getElem?_cons_zero, Option.some.injEq] at h
    subst h
    simp only [nms, List.map_cons, List.nodup_cons] at hd
    simp only [List.set_cons_zero, List.map_cons, if_true, List.cons.injEq, true_and]
    symm
    refine (List.map_congr_left fun a ha => ?_).trans (List.map_id _)
    have : a.1 ≠ x := fun he => hd.1 (he ▸ List.mem_map_of_mem ha)
    simp [this]
  | e :: out, k + 1, hd, h => by
    simp only [List.getElem?_cons_succ] at h
    simp only [nms, List.map_cons, List.nodup_cons] at hd
    have hm : x ∈ out.map (·.1) := List.mem_map_of_mem (f := (·.1)) (List.mem_of_getElem? h)
    have hne : e.1 ≠ x := fun he => hd.1 (he ▸ hm)
    simp only [List.set_cons_succ, List.map_cons, if_neg hne, List.cons.injEq, true_and]
    exact set_eq hd.2 h

theorem nms_map {out : List Mem2} {x : List UInt8} {f : V → V} : nms (out.map fun e => if e.1 = x then (e.1, f e.2) else e) = nms out := by
  unfold nms
  rw [List.map_map]
  refine List.map_congr_left fun a _ => ?_
  simp only [Function.comp]
  split <;> rfl

theorem stepM_nodup {mg : V → V → V} {out : List Mem2} {q : Mem2} (hd : (nms out).Nodup) : (nms (stepM mg out q)).Nodup := by
  unfold stepM
  split
  · split
    · exact List.Pairwise.sublist (List.Sublist.map _ List.filter_sublist) hd
    · have := nms_map (out := out) (x := q.1) (f := fun o => mg o q.2)
      rw [this]; exact hd
  · rename_i h
    split
    · exact hd
    · rw [nms, List.map_append, List.nodup_append]
      refine ⟨hd, by simp, ?_⟩
      intro a ha b hb
      simp only [List.map_cons, List.map_nil, List.mem_singleton] at hb
      rw [hb]
      exact fun e => h (e ▸ ha)

theorem stepM_length {mg : V → V → V} {out : List Mem2} {q : Mem2} : (stepM mg out q).length ≤ out.length + 1 := by
  unfold stepM
  split
  · split
    · exact Nat.le_succ_of_le (List.length_filter_le _ _)
    · simp
  · split
    · omega
    · simp

/-- What is in it behind a step: what was, or what is of the member's name. -/
theorem stepM_mem {mg : V → V → V} {out : List Mem2} {q e : Mem2} (h : e ∈ stepM mg out q) : e ∈ out ∨ (e.1 = q.1 ∧ ((∃ o, (q.1, o) ∈ out ∧ e.2 = mg o q.2) ∨ e.2 = mg none0 q.2)) := by
  unfold stepM at h
  split at h
  · split at h
    · exact .inl (List.mem_filter.1 h).1
    · obtain ⟨a, ha, he⟩ := List.mem_map.1 h
      split at he
      · rename_i hq
        subst he
        exact .inr ⟨hq, .inl ⟨a.2, by rw [← hq]; exact ha, rfl⟩⟩
      · subst he; exact .inl ha
  · split at h
    · exact .inl h
    · rcases List.mem_append.1 h with h | h
      · exact .inl h
      · rw [List.mem_singleton] at h
        subst h
        exact .inr ⟨rfl, .inr rfl⟩

theorem stepM_set {mg : V → V → V} {out : List Mem2} {q : Mem2} {k : Nat} {o : V} (hd : (nms out).Nodup) (hk : out[k]? = some (q.1, o)) (hn : q.2.kind ≠ 1) :
    nms (stepM mg out q) = nms out ∧ kds (stepM mg out q) = (kds out).set k (mg o q.2) := by
  have hm : q.1 ∈ nms out := List.mem_map_of_mem (f := (·.1)) (List.mem_of_getElem? hk)
  unfold stepM
  rw [if_pos hm, if_neg hn]
  refine ⟨nms_map (f := fun o => mg o q.2), ?_⟩
  have := set_eq (f := fun o => mg o q.2) hd hk
  rw [← this]
  simp [kds, List.map_set]

theorem stepM_del {mg : V → V → V} {out : List Mem2} {q : Mem2} {k : Nat} {o : V} (hd : (nms out).Nodup) (hk : out[k]? = some (q.1, o)) (hn : q.2.kind = 1) :
    nms (stepM mg out q) = (nms out).take k ++ (nms out).drop (k + 1) ∧ kds (stepM mg out q) = (kds out).take k ++ (kds out).drop (k + 1) := by
  have hm : q.1 ∈ nms out := List.mem_map_of_mem (f := (·.1)) (List.mem_of_getElem? hk)
  have hk2 : (nms out)[k]? = some q.1 := by simp [nms, hk]
  unfold stepM
  rw [if_pos hm, if_pos hn, ← del_eq hd hk2]
  simp [nms, kds, List.map_take, List.map_drop]

theorem stepM_new {mg : V → V → V} {out : List Mem2} {q : Mem2} (hm : q.1 ∉ nms out) (hn : q.2.kind ≠ 1) : stepM mg out q = out ++ [(q.1, mg none0 q.2)] := by
  unfold stepM; rw [if_neg hm, if_neg hn]
theorem stepM_skip {mg : V → V → V} {out : List Mem2} {q : Mem2} (hm : q.1 ∉ nms out) (hn : q.2.kind = 1) : stepM mg out q = out := by
  unfold stepM; rw [if_neg hm, if_pos hn]

/-- The loop of patch.Merge. -/
theorem merge_loop {self : V → V → Option V} {mg : V → V → V} {n : Nat} {p : V} (hpl : p.names.length = p.kids.length) (hpd : p.names.Nodup) (hp4 : p.kids.length ≤ 4) (hn : 30 ≤ n)
    (hnone : ∀ q ∈ prs p, self none0 q.2 = some (mg none0 q.2)) :
    ∀ (j i m : Nat) (out : List Mem2), i + j = p.kids.length → j < m → (nms out).Nodup → out.length ≤ 4 + i → (∀ e ∈ out, ∀ q ∈ (prs p).drop i, q.1 = e.1 → self e.2 q.2 = some (mg e.2 q.2)) →
      F15l1 self n m p.kids (p.kids.length : Int) (i : Int) p.kind p.b p.n p.s p.names p.kids 0 false 0 [] [] [] 6 false 0 [] (nms out) (kds out) =
        some ⟨6, false, 0, [], nms (((prs p).drop i).foldl (stepM mg) out), kds (((prs p).drop i).foldl (stepM mg) out)⟩ := by
  have hlen : (prs p).length = p.kids.length := by simp [prs, hpl]
  have hnp : (nms (prs p)).Nodup := by rw [nms_prs hpl]; exact hpd
  intro j
  induction j with
  | zero =>
    intro i m out q1 q2 q3 q4 q5
    obtain ⟨m, rfl⟩ : ∃ q, m = q + 1 := ⟨m - 1, by omega⟩
    simp only [F15l1, F15l1F]
    rw [decide_eq_false (by omega), List.drop_eq_nil_of_le (by omega)]
    rfl
  | succ j ih =>
    intro i m out q1 q2 q3 q4 q5
    obtain ⟨m, rfl⟩ : ∃ q, m = q + 1 := ⟨m - 1, by omega⟩
    have hlt : i < p.kids.length := by omega
    have hlt2 : i < p.names.length := by omega
    have hlt3 : i < (prs p).length := by omega
    have hq1 : (prs p)[i] = (p.names[i], p.kids[i]) := by simp [prs]
    have hgn : p.names.getD i (Ty.dflt .str) = p.names[i] := by rw [List.getD_eq_getElem?_getD, List.getElem?_eq_getElem hlt2, Option.getD_some]
    have hgk : p.kids.getD i (Ty.dflt .value) = p.kids[i] := by rw [List.getD_eq_getElem?_getD, List.getElem?_eq_getElem hlt, Option.getD_some]
    rw [List.drop_eq_getElem_cons hlt3, List.foldl_cons, hq1]
    generalize hx : p.names[i] = x at *
    generalize hkk : p.kids[i] = kk at *
    have hin : (x, kk) ∈ prs p := hq1 ▸ List.getElem_mem hlt3
    have hrest : ∀ q ∈ (prs p).drop (i + 1), q.1 ≠ x := by
      intro q hq he
      have h1 : (nms ((prs p).drop i)).Nodup := List.Pairwise.sublist (List.Sublist.map _ (List.drop_sublist _ _)) hnp
      rw [List.drop_eq_getElem_cons hlt3, hq1] at h1
      simp only [nms, List.map_cons, List.nodup_cons] at h1
      exact h1.1 (he ▸ List.mem_map_of_mem (f := (·.1)) hq)
    have hdrop : ∀ q ∈ (prs p).drop (i + 1), q ∈ (prs p).drop i := fun q hq => by
      rw [List.drop_eq_getElem_cons hlt3]; exact List.mem_cons_of_mem _ hq
    have hhead : (x, kk) ∈ (prs p).drop i := by rw [List.drop_eq_getElem_cons hlt3, hq1]; exact List.mem_cons_self
    -- what follows, from whatever the step leaves
    have next : F15l1 self n m p.kids (p.kids.length : Int) ((i + 1 : Nat) : Int) p.kind p.b p.n p.s p.names p.kids 0 false 0 [] [] [] 6 false 0 [] (nms (stepM mg out (x, kk))) (kds (stepM mg out (x, kk))) =
        some ⟨6, false, 0, [], nms (((prs p).drop (i + 1)).foldl (stepM mg) (stepM mg out (x, kk))), kds (((prs p).drop (i + 1)).foldl (stepM mg) (stepM mg out (x, kk)))⟩ := by
      refine ih (i + 1) m _ (by omega) (by omega) (stepM_nodup q3) (Nat.le_trans stepM_length (by omega)) ?_
      intro e he q hq hqe
      rcases stepM_mem he with he | ⟨he, _⟩
      · exact q5 e he q (hdrop q hq) hqe
      · exact absurd (hqe.trans he) (hrest q hq)
    have hw : IntKind.wrap .i64 ((i : Int) + 1) = ((i + 1 : Nat) : Int) := by rw [wrap64 (by omega) (by omega)]; omega
    simp only [F15l1, F15l1F]
    rw [decide_eq_true (by omega), inB_of hlt, decide_eq_false (by omega), inB_of hlt2, Int.toNat_natCast, hgn, hgk]
    simp only [cond_true, cond_false]
    rw [F29_pos q3 (by rw [nms_length]; omega) (by omega), kds_length]
    simp only
    rcases pos_cases q3 x with ⟨h1, h2⟩ | ⟨k, hkl, h2, hk⟩
    · -- a new name
      rw [h2, decide_eq_false (by omega)]
      simp only [cond_false]
      by_cases hnull : kk.kind = 1
      · rw [show (kk.kind == 1) = true by simp [hnull]]
        simp only [cond_true, F15j2]
        rw [decide_eq_false (by omega)]
        simp only [cond_false]
        rw [show (kk.kind == 1) = true by simp [hnull]]
        simp only [cond_true]
        rw [hw]
        rw [stepM_skip h1 hnull] at next ⊢
        exact next
      · rw [show (kk.kind == 1) = false by simp [hnull]]
        simp only [cond_false, F15j2]
        rw [show (kk.kind == 1) = false by simp [hnull], decide_eq_false (by omega), inB_of hlt2, Int.toNat_natCast, hgn]
        simp only [cond_true, cond_false, V.eta]
        have hs : self ⟨0, false, 0, [], [], []⟩ kk = some (mg none0 kk) := hnone _ hin
        have b1 : ((nms out).length + 1) * 16 ≤ maxRoom := by rw [nms_length]; simp only [maxRoom]; omega
        have b2 : (nms out).length + 1 ≤ maxRoom := by rw [nms_length]; simp only [maxRoom]; omega
        have b3 : ((kds out).length + 1) * 88 ≤ maxRoom := by rw [kds_length]; simp only [maxRoom]; omega
        have b4 : (kds out).length + 1 ≤ maxRoom := by rw [kds_length]; simp only [maxRoom]; omega
        simp only [List.length_cons, List.length_nil, Nat.zero_add, decide_eq_true b1, decide_eq_true b2, decide_eq_true b3, decide_eq_true b4, Bool.and_true, cond_true, hs, hw]
        rw [stepM_new h1 hnull] at next ⊢
        rw [← next]
        simp [nms, kds]
    · -- a name that is there
      rw [nms_length] at hkl
      obtain ⟨o, ho⟩ : ∃ o, out[k]? = some (x, o) := by
        rw [nms, List.getElem?_map, List.getElem?_eq_getElem hkl] at hk
        simp only [Option.map_some, Option.some.injEq] at hk
        exact ⟨out[k].2, by rw [List.getElem?_eq_getElem hkl, ← hk]⟩
      have hok : (kds out).getD k (Ty.dflt .value) = o := by simp [kds, List.getD_eq_getElem?_getD, ho]
      rw [h2, decide_eq_false (by omega)]
      simp only [cond_false]
      by_cases hnull : kk.kind = 1
      · rw [show (kk.kind == 1) = true by simp [hnull]]
        simp only [cond_true, F15j2]
        rw [decide_eq_true (by omega)]
        have hk1 : IntKind.wrap .i64 ((k : Int) + 1) = ((k + 1 : Nat) : Int) := by rw [wrap64 (by omega) (by omega)]; omega
        simp only [cond_true, hk1, Int.toNat_natCast, hw]
        have d1 : (k : Int) ≤ ((k + 1 : Nat) : Int) := by omega
        have d2 : ((k + 1 : Nat) : Int) ≤ ((nms out).length : Int) := by rw [nms_length]; omega
        have d3 : ((k + 1 : Nat) : Int) ≤ ((kds out).length : Int) := by rw [kds_length]; omega
        simp only [decide_eq_true d1, decide_eq_true d2, decide_eq_true d3, Bool.and_true, cond_true]
        obtain ⟨e1, e2⟩ := stepM_del (mg := mg) (q := (x, kk)) q3 ho hnull
        rw [← next, e1, e2]
      · rw [show (kk.kind == 1) = false by simp [hnull]]
        simp only [cond_false, F15j2]
        rw [show (kk.kind == 1) = false by simp [hnull], decide_eq_true (by omega), inB_of (by rw [kds_length]; exact hkl), Int.toNat_natCast, hok]
        simp only [cond_true, cond_false, V.eta]
        have hs : self o kk = some (mg o kk) := q5 (x, o) (List.mem_of_getElem? ho) (x, kk) hhead rfl
        simp only [hs, hw]
        obtain ⟨e1, e2⟩ := stepM_set (mg := mg) (q := (x, kk)) q3 ho hnull
        rw [← next, e1, e2]

/-! ### What the members come to -/

theorem fm_congr {α β : Type} {f g : α → Option β} : ∀ {l : List α}, (∀ a ∈ l, f a = g a) → l.filterMap f = l.filterMap g
  | [], _ => rfl
  | a :: l, h => by rw [List.filterMap_cons, List.filterMap_cons, h a (by simp), fm_congr (l := l) fun b hb => h b (by simp [hb])]

def look (ps : List Mem2) (x : List UInt8) : Option V := (ps.find? fun q => q.1 == x).map (·.2)

def wasM (mg : V → V → V) (ps : List Mem2) (e : Mem2) : Option Mem2 :=
  match look ps e.1 with
  | none => some e
  | some k => if k.kind = 1 then none else some (e.1, mg e.2 k)

def newM (mg : V → V → V) (ns : List (List UInt8)) (q : Mem2) : Option Mem2 := if q.2.kind ≠ 1 ∧ q.1 ∉ ns then some (q.1, mg none0 q.2) else none

theorem look_cons_ne {q : Mem2} {ps : List Mem2} {x : List UInt8} (h : q.1 ≠ x) : look (q :: ps) x = look ps x := by
  simp [look, List.find?_cons, beq_eq_false_iff_ne.2 h]
theorem look_cons_eq {q : Mem2} {ps : List Mem2} : look (q :: ps) q.1 = some q.2 := by simp [look]
theorem look_none {ps : List Mem2} {x : List UInt8} (h : x ∉ nms ps) : look ps x = none := by
  simp only [look, Option.map_eq_none_iff, List.find?_eq_none]
  intro q hq he
  exact h (by rw [← eq_of_beq he]; exact List.mem_map_of_mem (f := (·.1)) hq)

theorem foldl_stepM {mg : V → V → V} : ∀ (ps out : List Mem2), (nms ps).Nodup → (nms out).Nodup → ps.foldl (stepM mg) out = out.filterMap (wasM mg ps) ++ ps.filterMap (newM mg (nms out))
  | [], out, _, _ => by
    simp only [List.foldl_nil, List.filterMap_nil, List.append_nil]
    symm
    rw [show wasM mg [] = some from funext fun e => by simp [wasM, look]]
    exact List.filterMap_some
  | q :: ps, out, hp, ho => by
    rw [List.foldl_cons, foldl_stepM ps _ (by simp only [nms, List.map_cons, List.nodup_cons] at hp; exact hp.2) (stepM_nodup ho)]
    have hq : q.1 ∉ nms ps := by simp only [nms, List.map_cons, List.nodup_cons] at hp; exact hp.1
    have hne : ∀ r ∈ ps, r.1 ≠ q.1 := fun r hr he => hq (he ▸ List.mem_map_of_mem (f := (·.1)) hr)
    by_cases hm : q.1 ∈ nms out
    · -- it is there
      have hB : newM mg (nms out) q = none := by simp [newM, hm]
      rw [List.filterMap_cons, hB]
      have hnm : ps.filterMap (newM mg (nms (stepM mg out q))) = ps.filterMap (newM mg (nms out)) := by
        refine fm_congr fun r hr => ?_
        have hmem : r.1 ∈ nms (stepM mg out q) ↔ r.1 ∈ nms out := by
          unfold stepM
          rw [if_pos hm]
          split
          · constructor
            · intro h
              obtain ⟨a, ha, he⟩ := List.mem_map.1 h
              exact List.mem_map.2 ⟨a, (List.mem_filter.1 ha).1, he⟩
            · intro h
              obtain ⟨a, ha, he⟩ := List.mem_map.1 h
              refine List.mem_map.2 ⟨a, List.mem_filter.2 ⟨ha, ?_⟩, he⟩
              have : a.1 ≠ q.1 := he ▸ hne r hr
              simp [this]
          · have := nms_map (out := out) (x := q.1) (f := fun o => mg o q.2)
            rw [this]
        simp only [newM, hmem]
      rw [hnm]
      congr 1
      unfold stepM
      rw [if_pos hm]
      split
      · rename_i hnull
        rw [List.filterMap_filter]
        refine fm_congr fun a ha => ?_
        by_cases he : a.1 = q.1
        · simp [wasM, he, look_cons_eq, hnull]
        · simp [wasM, he, look_cons_ne (Ne.symm he)]
      · rename_i hnull
        rw [List.filterMap_map]
        refine fm_congr fun a ha => ?_
        simp only [Function.comp]
        by_cases he : a.1 = q.1
        · rw [if_pos he]
          simp [wasM, he, look_cons_eq, hnull, look_none hq]
        · rw [if_neg he]
          simp [wasM, look_cons_ne (Ne.symm he)]
    · have hA : out.filterMap (wasM mg (q :: ps)) = out.filterMap (wasM mg ps) := by
        refine fm_congr fun a ha => ?_
        have he : q.1 ≠ a.1 := fun he => hm (he ▸ List.mem_map_of_mem (f := (·.1)) ha)
        simp [wasM, look_cons_ne he]
      rw [hA]
      by_cases hnull : q.2.kind = 1
      · rw [stepM_skip hm hnull, List.filterMap_cons, show newM mg (nms out) q = none by simp [newM, hnull]]
      · rw [show (q :: ps).filterMap (newM mg (nms out)) = (q.1, mg none0 q.2) :: ps.filterMap (newM mg (nms out)) by rw [List.filterMap_cons, show newM mg (nms out) q = some (q.1, mg none0 q.2) by simp [newM, hnull, hm]], stepM_new hm hnull, List.filterMap_append]
        have h1 : [(q.1, mg none0 q.2)].filterMap (wasM mg ps) = [(q.1, mg none0 q.2)] := by simp [wasM, look_none hq]
        rw [h1]
        have h2 : ps.filterMap (newM mg (nms (out ++ [(q.1, mg none0 q.2)]))) = ps.filterMap (newM mg (nms out)) := by
          refine fm_congr fun r hr => ?_
          have : r.1 ∈ nms (out ++ [(q.1, mg none0 q.2)]) ↔ r.1 ∈ nms out := by
            simp [nms, hne r hr]
          simp only [newM, this]
        rw [h2, List.append_assoc]
        rfl

/-- An object of these members. -/
def objM (l : List Mem2) : V := ⟨6, false, 0, [], nms l, kds l⟩
/-- The members that are there to begin with. -/
def oldM (x : V) : List Mem2 := if x.kind = 6 then prs x else []
/-- What comes of two values, the second an object. -/
def mrgM (mg : V → V → V) (x p : V) : List Mem2 := (oldM x).filterMap (wasM mg (prs p)) ++ (prs p).filterMap (newM mg (nms (oldM x)))

theorem prs_good {d : Nat} {p : V} (hp : Good (d + 1) p) {q : Mem2} (h : q ∈ prs p) : Good d q.2 := hp.2.2.2.2 _ (List.of_mem_zip h).2

theorem none0_good {d : Nat} {k : V} (h : Good d k) : Good d none0 := by
  cases d with
  | zero => exact h.elim
  | succ d => exact ⟨by simp [none0], by simp [none0], fun h => by simp [none0] at h, fun _ => rfl, by simp [none0]⟩

theorem oldM_nodup {d : Nat} {x : V} (hx : Good (d + 1) x) : (nms (oldM x)).Nodup := by
  unfold oldM
  split
  · rename_i hk
    rw [nms_prs (hx.2.2.1 hk).1]; exact (hx.2.2.1 hk).2.1
  · simp [nms]

theorem oldM_length {d : Nat} {x : V} (hx : Good (d + 1) x) : (oldM x).length ≤ 4 := by
  unfold oldM
  split
  · have h1 := hx.1; have h2 := hx.2.1; simp [prs]; omega
  · simp

theorem oldM_good {d : Nat} {x : V} (hx : Good (d + 1) x) {e : Mem2} (h : e ∈ oldM x) : Good d e.2 := by
  unfold oldM at h
  split at h
  · exact prs_good hx h
  · cases h

theorem look_mem {ps : List Mem2} {x : List UInt8} {k : V} (h : look ps x = some k) : (x, k) ∈ ps := by
  simp only [look, Option.map_eq_some_iff] at h
  obtain ⟨q, hq, rfl⟩ := h
  have h1 := List.mem_of_find?_eq_some hq
  have h3 := List.find?_some hq
  have h2 := eq_of_beq h3
  rw [← h2]
  exact h1

theorem merge_step {d n : Nat} {mg : V → V → V} {x p : V} (hmg : ∀ v k n, Good d v → Good d k → d + 30 ≤ n → F15 n v k = some (mg v k)) (hx : Good (d + 1) x) (hp : Good (d + 1) p) (hk : p.kind = 6) (hn : d + 31 ≤ n) :
    F15 n x p = some (objM (mrgM mg x p)) := by
  obtain ⟨n, rfl⟩ : ∃ q, n = q + 1 := ⟨n - 1, by omega⟩
  obtain ⟨p1, p2, _⟩ := hp.2.2.1 hk
  have hp4 := hp.2.1
  have hx1 := hx.1
  have hx2 := hx.2.1
  have hloop := merge_loop (self := F15 n) (mg := mg) (n := n) p1 p2 hp4 (by omega) (fun q hq => hmg _ _ n (none0_good (prs_good hp hq)) (prs_good hp hq) (by omega)) p.kids.length 0 n (oldM x) (by omega) (by omega) (oldM_nodup hx) (by have := oldM_length hx; omega)
    (fun e he q hq _ => hmg _ _ n (oldM_good hx he) (prs_good hp (List.mem_of_mem_drop hq)) (by omega))
  rw [List.drop_zero, foldl_stepM _ _ (by rw [nms_prs p1]; exact p2) (oldM_nodup hx)] at hloop
  simp only [F15, F15B]
  rw [show (p.kind != 6) = false by simp [hk]]
  simp only [cond_false, F15j0]
  by_cases hxk : x.kind = 6
  · rw [show (x.kind == 6) = true by simp [hxk]]
    have b1 : x.names.length * 16 ≤ maxRoom := by simp only [maxRoom]; omega
    have b2 : x.names.length ≤ maxRoom := by simp only [maxRoom]; omega
    have b3 : x.kids.length * 88 ≤ maxRoom := by simp only [maxRoom]; omega
    have b4 : x.kids.length ≤ maxRoom := by simp only [maxRoom]; omega
    simp only [cond_true, decide_eq_true b1, decide_eq_true b2, decide_eq_true b3, decide_eq_true b4, Bool.and_true]
    have e1 : nms (oldM x) = x.names := by unfold oldM; rw [if_pos hxk]; exact nms_prs (hx.2.2.1 hxk).1
    have e2 : kds (oldM x) = x.kids := by unfold oldM; rw [if_pos hxk]; exact kds_prs (hx.2.2.1 hxk).1
    rw [e1, e2] at hloop
    rw [mrgM, e1]
    exact hloop
  · rw [show (x.kind == 6) = false by simp [hxk]]
    simp only [cond_false]
    have e0 : oldM x = [] := by unfold oldM; rw [if_neg hxk]
    rw [mrgM]
    rw [e0] at hloop ⊢
    exact hloop

theorem filterMap_length {α β : Type} (f : α → Option β) : ∀ l : List α, (l.filterMap f).length ≤ l.length
  | [] => Nat.le_refl _
  | a :: l => by
    rw [List.filterMap_cons]
    have := filterMap_length f l
    split <;> simp only [List.length_cons] <;> omega

theorem merge_sz {d : Nat} {mg : V → V → V} {x p : V} (hsz : ∀ v k, Good d v → Good d k → Sz d (mg v k)) (hx : Good (d + 1) x) (hp : Good (d + 1) p) : Sz (d + 1) (objM (mrgM mg x p)) := by
  have hl : (mrgM mg x p).length ≤ 8 := by
    have h1 := oldM_length hx
    have h2 : (prs p).length ≤ 4 := by have h1 := hp.1; simp [prs]; omega
    have h3 := filterMap_length (wasM mg (prs p)) (oldM x)
    have h4 := filterMap_length (newM mg (nms (oldM x))) (prs p)
    simp only [mrgM, List.length_append]
    omega
  refine ⟨by simp only [objM]; rw [nms_length]; omega, by simp only [objM]; rw [kds_length]; omega, fun k hk => ?_⟩
  simp only [objM, kds] at hk
  obtain ⟨e, he, rfl⟩ := List.mem_map.1 hk
  rcases List.mem_append.1 he with he | he
  · obtain ⟨a, ha, hae⟩ := List.mem_filterMap.1 he
    unfold wasM at hae
    split at hae
    · cases hae; exact (oldM_good hx ha).sz
    · rename_i k hlk
      split at hae
      · cases hae
      · cases hae
        exact hsz _ _ (oldM_good hx ha) (prs_good hp (look_mem hlk))
  · obtain ⟨a, ha, hae⟩ := List.mem_filterMap.1 he
    unfold newM at hae
    split at hae
    · cases hae
      exact hsz _ _ (none0_good (prs_good hp ha)) (prs_good hp ha)
    · cases hae

theorem merge_total : ∀ d : Nat, ∃ mg : V → V → V, (∀ v k n, Good d v → Good d k → d + 30 ≤ n → F15 n v k = some (mg v k)) ∧ ∀ v k, Good d v → Good d k → Sz d (mg v k)
  | 0 => ⟨fun _ _ => none0, fun _ _ _ h => h.elim, fun _ _ h => h.elim⟩
  | d + 1 => by
    obtain ⟨mg, h1, h2⟩ := merge_total d
    refine ⟨fun x p => if p.kind = 6 then objM (mrgM mg x p) else p, fun x p n hx hp hn => ?_, fun x p hx hp => ?_⟩
    · show F15 n x p = some (if p.kind = 6 then objM (mrgM mg x p) else p)
      by_cases hk : p.kind = 6
      · rw [if_pos hk]
        exact merge_step h1 hx hp hk (by omega)
      · rw [if_neg hk]
        obtain ⟨n, rfl⟩ : ∃ q, n = q + 1 := ⟨n - 1, by omega⟩
        exact merge_whole_n hk
    · show Sz (d + 1) (if p.kind = 6 then objM (mrgM mg x p) else p)
      by_cases hk : p.kind = 6
      · rw [if_pos hk]; exact merge_sz h2 hx hp
      · rw [if_neg hk]; exact hp.sz

/-! ### The law's own loops -/

theorem kd_at {v : V} {i : Nat} (hlt : i < v.kids.length) : v.kids.getD i (Ty.dflt .value) = v.kids[i] := by rw [List.getD_eq_getElem?_getD, List.getElem?_eq_getElem hlt, Option.getD_some]
theorem nm_at {v : V} {i : Nat} (hlt : i < v.names.length) : v.names.getD i (Ty.dflt .str) = v.names[i] := by rw [List.getD_eq_getElem?_getD, List.getElem?_eq_getElem hlt, Option.getD_some]

theorem look_pos {p : V} (hl : p.names.length = p.kids.length) (hd : p.names.Nodup) {x : List UInt8} {k : Nat} (hk : p.names[k]? = some x) : look (prs p) x = p.kids[k]? := by
  have hkl := (List.getElem?_eq_some_iff.1 hk).1
  have hkk : k < p.kids.length := by omega
  have hin : (x, p.kids[k]) ∈ prs p := by
    have h1 : (prs p)[k]'(by simp [prs]; omega) = (p.names[k], p.kids[k]) := by simp [prs]
    have h2 : p.names[k] = x := (List.getElem?_eq_some_iff.1 hk).2
    rw [← h2, ← h1]
    exact List.getElem_mem _
  rw [List.getElem?_eq_getElem hkk]
  cases hlk : look (prs p) x with
  | none =>
    exfalso
    simp only [look, Option.map_eq_none_iff, List.find?_eq_none] at hlk
    exact hlk _ hin (by simp)
  | some u =>
    have hm := look_mem hlk
    obtain ⟨a, ha, hae⟩ := List.getElem_of_mem hm
    have ha1 : p.names[a]? = some x := by
      have h1 : (prs p)[a] = (p.names[a]'(by simp [prs] at ha; omega), p.kids[a]'(by simp [prs] at ha; omega)) := by simp [prs]
      rw [hae] at h1
      rw [List.getElem?_eq_getElem (by simp [prs] at ha; omega)]
      simp only [Prod.mk.injEq] at h1
      rw [h1.1]
    have := nodup_at hd ha1 hk
    subst this
    have h1 : (prs p)[a] = (p.names[a]'(by simp [prs] at ha; omega), p.kids[a]'(by simp [prs] at ha; omega)) := by simp [prs]
    rw [hae] at h1
    simp only [Prod.mk.injEq] at h1
    rw [h1.2]

theorem F6l2_ok {mg : V → V → V} {x p : V} (hmg : ∀ v k n, Good 4 v → Good 4 k → 34 ≤ n → F15 n v k = some (mg v k)) (hsz : ∀ v k, Good 4 v → Good 4 k → Sz 4 (mg v k)) (hx : Good 5 x) (hp : Good 5 p) (hk : p.kind = 6) :
    ∀ (j i m : Nat) (out : List Mem2), i + j = p.kids.length → j < m → out.length ≤ 4 + i → out ++ ((prs p).drop i).filterMap (newM mg (nms (oldM x))) = mrgM mg x p →
      F6l2 100 m (i : Int) x.kind x.b x.n x.s x.names x.kids p.kind p.b p.n p.s p.names p.kids 6 false 0 [] (nms out) (kds out) = some true := by
  obtain ⟨p1, p2, _⟩ := hp.2.2.1 hk
  have hp4 := hp.2.1
  have hlen : (prs p).length = p.kids.length := by simp [prs, p1]
  intro j
  induction j with
  | zero =>
    intro i m out q1 q2 q3 q4
    obtain ⟨m, rfl⟩ : ∃ q, m = q + 1 := ⟨m - 1, by omega⟩
    rw [List.drop_eq_nil_of_le (by omega), List.filterMap_nil, List.append_nil] at q4
    subst q4
    simp only [F6l2, F6l2F]
    rw [decide_eq_false (by omega)]
    simp only [cond_false, V.eta]
    rw [merge_step hmg hx hp hk (by omega)]
    have h1 : F14 100 (objM (mrgM mg x p)) ⟨6, false, 0, [], nms (mrgM mg x p), kds (mrgM mg x p)⟩ = some true := same_self 5 _ 100 (merge_sz hsz hx hp) (by omega)
    simp only [h1, cond_true, awake_true]
  | succ j ih =>
    intro i m out q1 q2 q3 q4
    obtain ⟨m, rfl⟩ : ∃ q, m = q + 1 := ⟨m - 1, by omega⟩
    have hlt : i < p.kids.length := by omega
    have hlt2 : i < p.names.length := by omega
    have hlt3 : i < (prs p).length := by omega
    have hq1 : (prs p)[i] = (p.names[i], p.kids[i]) := by simp [prs]
    rw [List.drop_eq_getElem_cons hlt3, hq1, List.filterMap_cons] at q4
    have hkg : Good 4 p.kids[i] := hp.2.2.2.2 _ (List.getElem_mem _)
    have hw : IntKind.wrap .i64 ((i : Int) + 1) = ((i + 1 : Nat) : Int) := by rw [wrap64 (by omega) (by omega)]; omega
    simp only [F6l2, F6l2F]
    rw [decide_eq_true (by omega), inB_of hlt, inB_of hlt2, Int.toNat_natCast, kd_at hlt, nm_at hlt2]
    simp only [cond_true, V.eta]
    by_cases hnull : p.kids[i].kind = 1
    · rw [show (p.kids[i].kind != 1) = false by simp [hnull]]
      simp only [cond_false, hw]
      refine ih (i + 1) m out (by omega) (by omega) (by omega) ?_
      rw [← q4]
      simp [newM, hnull]
    · rw [show (p.kids[i].kind != 1) = true by simp [hnull]]
      simp only [cond_true]
      have hmem : F18 100 x p.names[i] = some (if p.names[i] ∈ nms (oldM x) then pos x.names p.names[i] else -1) := by
        by_cases hxk : x.kind = 6
        · have e1 : nms (oldM x) = x.names := by unfold oldM; rw [if_pos hxk]; exact nms_prs (hx.2.2.1 hxk).1
          rw [F18_pos hxk (hx.2.2.1 hxk).2.1 (by have := hx.1; omega) (by omega), e1]
          split
          · rfl
          · rename_i h; rw [pos_none h]
        · have e0 : oldM x = [] := by unfold oldM; rw [if_neg hxk]
          rw [e0]
          simp only [nms, List.map_nil, List.not_mem_nil, if_false]
          have hn0 : x.names = [] := hx.2.2.2.1 hxk
          unfold F18
          rw [hn0]
          rfl
      rw [hmem]
      simp only
      by_cases hin : p.names[i] ∈ nms (oldM x)
      · rw [if_pos hin]
        have hxk : x.kind = 6 := by
          by_cases h : x.kind = 6
          · exact h
          · unfold oldM at hin; rw [if_neg h] at hin; simp [nms] at hin
        have e1 : nms (oldM x) = x.names := by unfold oldM; rw [if_pos hxk]; exact nms_prs (hx.2.2.1 hxk).1
        rw [e1] at hin
        have h0 : ¬ pos x.names p.names[i] < 0 := by unfold pos; rw [if_pos hin]; omega
        rw [decide_eq_false h0]
        simp only [cond_false, hw]
        refine ih (i + 1) m out (by omega) (by omega) (by omega) ?_
        rw [← q4]
        simp [newM, hnull, e1, hin]
      · rw [if_neg hin]
        rw [show decide ((-1 : Int) < 0) = true from rfl]
        have b1 : ((nms out).length + 1) * 16 ≤ maxRoom := by rw [nms_length]; simp only [maxRoom]; omega
        have b2 : (nms out).length + 1 ≤ maxRoom := by rw [nms_length]; simp only [maxRoom]; omega
        have b3 : ((kds out).length + 1) * 88 ≤ maxRoom := by rw [kds_length]; simp only [maxRoom]; omega
        have b4 : (kds out).length + 1 ≤ maxRoom := by rw [kds_length]; simp only [maxRoom]; omega
        have hs : F15 100 ⟨0, false, 0, [], [], []⟩ p.kids[i] = some (mg none0 p.kids[i]) := hmg none0 _ 100 (none0_good hkg) hkg (by omega)
        simp only [cond_true, List.length_cons, List.length_nil, Nat.zero_add, decide_eq_true b1, decide_eq_true b2, decide_eq_true b3, decide_eq_true b4, Bool.and_true, hs, hw]
        have := ih (i + 1) m (out ++ [(p.names[i], mg none0 p.kids[i])]) (by omega) (by omega) (by simp; omega) (by
          rw [← q4]
          simp [newM, hnull, hin])
        rw [← this]
        simp [nms, kds]

theorem F6j0_ok {mg : V → V → V} {x p : V} (hmg : ∀ v k n, Good 4 v → Good 4 k → 34 ≤ n → F15 n v k = some (mg v k)) (hsz : ∀ v k, Good 4 v → Good 4 k → Sz 4 (mg v k)) (hx : Good 5 x) (hp : Good 5 p) (hk : p.kind = 6) {out : List Mem2}
    (ho : out.length ≤ 4) (hout : out ++ (prs p).filterMap (newM mg (nms (oldM x))) = mrgM mg x p) :
    F6j0 100 x.kind x.b x.n x.s x.names x.kids p.kind p.b p.n p.s p.names p.kids 6 false 0 [] (nms out) (kds out) = some true := by
  have hp4 := hp.2.1
  unfold F6j0
  exact F6l2_ok hmg hsz hx hp hk p.kids.length 0 100 out (by omega) (by omega) (by omega) hout

theorem F6l1_ok {mg : V → V → V} {x p : V} (hmg : ∀ v k n, Good 4 v → Good 4 k → 34 ≤ n → F15 n v k = some (mg v k)) (hsz : ∀ v k, Good 4 v → Good 4 k → Sz 4 (mg v k)) (hx : Good 5 x) (hp : Good 5 p) (hk : p.kind = 6) (hxk : x.kind = 6) :
    ∀ (j i m : Nat) (out : List Mem2), i + j = x.kids.length → j < m → out.length ≤ i → out ++ ((prs x).drop i).filterMap (wasM mg (prs p)) = (oldM x).filterMap (wasM mg (prs p)) →
      F6l1 100 m (i : Int) x.kind x.b x.n x.s x.names x.kids p.kind p.b p.n p.s p.names p.kids 6 false 0 [] (nms out) (kds out) = some true := by
  obtain ⟨p1, p2, _⟩ := hp.2.2.1 hk
  obtain ⟨x1, x2, _⟩ := hx.2.2.1 hxk
  have hp4 := hp.2.1
  have hp3 := hp.1
  have hx4 := hx.2.1
  have hlen : (prs x).length = x.kids.length := by simp [prs, x1]
  intro j
  induction j with
  | zero =>
    intro i m out q1 q2 q3 q4
    obtain ⟨m, rfl⟩ : ∃ q, m = q + 1 := ⟨m - 1, by omega⟩
    rw [List.drop_eq_nil_of_le (by omega), List.filterMap_nil, List.append_nil] at q4
    simp only [F6l1, F6l1F]
    rw [decide_eq_false (by omega)]
    exact F6j0_ok hmg hsz hx hp hk (by omega) (by rw [q4]; rfl)
  | succ j ih =>
    intro i m out q1 q2 q3 q4
    obtain ⟨m, rfl⟩ : ∃ q, m = q + 1 := ⟨m - 1, by omega⟩
    have hlt : i < x.kids.length := by omega
    have hlt2 : i < x.names.length := by omega
    have hlt3 : i < (prs x).length := by omega
    have hq1 : (prs x)[i] = (x.names[i], x.kids[i]) := by simp [prs]
    rw [List.drop_eq_getElem_cons hlt3, hq1, List.filterMap_cons] at q4
    have hkg : Good 4 x.kids[i] := hx.2.2.2.2 _ (List.getElem_mem _)
    have hw : IntKind.wrap .i64 ((i : Int) + 1) = ((i + 1 : Nat) : Int) := by rw [wrap64 (by omega) (by omega)]; omega
    have b1 : ((nms out).length + 1) * 16 ≤ maxRoom := by rw [nms_length]; simp only [maxRoom]; omega
    have b2 : (nms out).length + 1 ≤ maxRoom := by rw [nms_length]; simp only [maxRoom]; omega
    have b3 : ((kds out).length + 1) * 88 ≤ maxRoom := by rw [kds_length]; simp only [maxRoom]; omega
    have b4 : (kds out).length + 1 ≤ maxRoom := by rw [kds_length]; simp only [maxRoom]; omega
    simp only [F6l1, F6l1F]
    rw [decide_eq_true (by omega), show (x.kind == 6) = true by simp [hxk], inB_of hlt, inB_of hlt2, Int.toNat_natCast, kd_at hlt, nm_at hlt2]
    simp only [cond_true, V.eta]
    rw [F18_pos hk p2 (by omega) (by omega)]
    simp only
    rcases pos_cases p2 x.names[i] with ⟨h1, h2⟩ | ⟨k, hkl, h2, hkn⟩
    · have hlk : look (prs p) x.names[i] = none := look_none (by rw [nms_prs p1]; exact h1)
      rw [h2, show decide ((-1 : Int) ≥ 0) = false from rfl]
      simp only [cond_false, F6j3, F6j4]
      rw [show decide ((-1 : Int) ≥ 0) = false from rfl, inB_of hlt2, Int.toNat_natCast, nm_at hlt2]
      simp only [cond_true, cond_false, V.eta, List.length_cons, List.length_nil, Nat.zero_add, decide_eq_true b1, decide_eq_true b2, decide_eq_true b3, decide_eq_true b4, Bool.and_true, hw]
      have := ih (i + 1) m (out ++ [(x.names[i], x.kids[i])]) (by omega) (by omega) (by simp; omega) (by
        rw [← q4]
        simp [wasM, hlk])
      rw [← this]
      simp [nms, kds]
    · have hkk : k < p.kids.length := by omega
      have hlk : look (prs p) x.names[i] = some p.kids[k] := by rw [look_pos p1 p2 hkn, List.getElem?_eq_getElem hkk]
      have hpg : Good 4 p.kids[k] := hp.2.2.2.2 _ (List.getElem_mem _)
      rw [h2, decide_eq_true (by omega), inB_of hkk, Int.toNat_natCast, kd_at hkk]
      simp only [cond_true]
      by_cases hnull : p.kids[k].kind = 1
      · rw [show (p.kids[k].kind == 1) = true by simp [hnull]]
        simp only [cond_true, hw]
        refine ih (i + 1) m out (by omega) (by omega) (by omega) ?_
        rw [← q4]
        simp [wasM, hlk, hnull]
      · rw [show (p.kids[k].kind == 1) = false by simp [hnull]]
        simp only [cond_false, F6j3, F6j4]
        rw [decide_eq_true (by omega), inB_of hkk, Int.toNat_natCast, kd_at hkk]
        have hs : F15 100 x.kids[i] p.kids[k] = some (mg x.kids[i] p.kids[k]) := hmg _ _ 100 hkg hpg (by omega)
        simp only [cond_true, V.eta, hs]
        rw [inB_of hlt2, Int.toNat_natCast, nm_at hlt2]
        simp only [cond_true, cond_false, V.eta, List.length_cons, List.length_nil, Nat.zero_add, decide_eq_true b1, decide_eq_true b2, decide_eq_true b3, decide_eq_true b4, Bool.and_true, hw]
        have := ih (i + 1) m (out ++ [(x.names[i], mg x.kids[i] p.kids[k])]) (by omega) (by omega) (by simp; omega) (by
          rw [← q4]
          simp [wasM, hlk, hnull])
        rw [← this]
        simp [nms, kds]

theorem F6l1_else {n m : Nat} {x p : V} (hxk : x.kind ≠ 6) {r : Option Bool} (h : F6j0 n x.kind x.b x.n x.s x.names x.kids p.kind p.b p.n p.s p.names p.kids 6 false 0 [] [] [] = r) :
    F6l1 n (m + 1) 0 x.kind x.b x.n x.s x.names x.kids p.kind p.b p.n p.s p.names p.kids 6 false 0 [] [] [] = r := by
  simp only [F6l1, F6l1F]
  rw [show (x.kind == 6) = false by simp [hxk]]
  simp only [cond_false]
  cases (decide ((0 : Int) < ((x.kids).length : Int))) <;> exact h

theorem patchMembers_pure (l m : List Int) : F6 100 l m = some true := by
  unfold F6
  obtain ⟨x, x1, x2⟩ := Small_good' l
  obtain ⟨p, p1, p2⟩ := Small_good' m
  rw [x1, p1]
  simp only
  by_cases hk : p.kind = 6
  · rw [show (p.kind != 6) = false by simp [hk]]
    simp only [cond_false]
    by_cases h : (l.length : Int) > 60
    · rw [decide_eq_true h, awake_true]
      rfl
    rw [decide_eq_false h]
    by_cases h' : (m.length : Int) > 60
    · rw [decide_eq_true h', awake_true]
      rfl
    rw [decide_eq_false h']
    simp only [cond_false]
    obtain ⟨mg, g1, g2⟩ := merge_total 4
    have hx4 := x2.2.1
    by_cases hxk : x.kind = 6
    · have e0 : oldM x = prs x := by unfold oldM; rw [if_pos hxk]
      exact F6l1_ok g1 g2 x2 p2 hk hxk x.kids.length 0 100 [] (by omega) (by omega) (by simp) (by rw [List.drop_zero, e0]; rfl)
    · have e0 : oldM x = [] := by unfold oldM; rw [if_neg hxk]
      have fin := F6j0_ok g1 g2 x2 p2 hk (out := []) (by simp) (by rw [mrgM, e0]; rfl)
      exact F6l1_else (m := 99) hxk fin
  · rw [show (p.kind != 6) = true by simp [hk], awake_true]
    rfl

end Go.Proofs.Ytdkelhdlfeendaa.Ab
