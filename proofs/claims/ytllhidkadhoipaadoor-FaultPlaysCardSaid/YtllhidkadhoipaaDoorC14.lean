/- A region whose order is drawn: what the order of the text comes to, every order comes to. For every program whose types are as told. -/
import Derived.Test.YtllhidkadhoipaaDoorC13
namespace Go.Proofs.YtllhidkadhoipaaDoor.Ab
open Go Go.RowKit

section
variable {P : Program} {Γ : FuncId → List D → D → Prop} {E : Env} {lay : Lay} {ops : Array Oper} {Q : Exit → Act → World → Prop}

/-- The chain, place by place. -/
theorem Chain.at {l : List Oper} {L L' : Mem} {fs : List (List Loc × List Loc)} (h : Chain Γ lay ops l L L' fs) :
    fs.length = l.length ∧ ∃ M : Nat → Mem, M 0 = L ∧ M l.length = L' ∧ ∀ i o, l[i]? = some o → ∃ f, fs[i]? = some f ∧ Run Γ (gPr lay ops o) (M i) (M (i + 1)) f.1 f.2 := by
  induction h with
  | nil => exact ⟨rfl, fun _ => _, rfl, rfl, by simp⟩
  | @cons o l L L1 L' rs ws fs h k ih =>
    obtain ⟨h1, M, h2, h3, h4⟩ := ih
    refine ⟨by simp [h1], fun i => match i with | 0 => L | i + 1 => M i, rfl, h3, fun i o' hi => ?_⟩
    cases i with
    | zero => simp at hi; subst hi; exact ⟨(rs, ws), rfl, by simpa [h2] using h⟩
    | succ i => simp at hi; obtain ⟨f, k1, k2⟩ := h4 i o' hi; exact ⟨f, by simpa using k1, k2⟩

/-- The memory behind those operations that were carried out. -/
def LS (M : Nat → Mem) (fs : List (List Loc × List Loc)) (S : Nat → Bool) : Nat → Mem
  | 0 => M 0
  | k + 1 => fun l => if S k = true ∧ l ∈ (fs.getD k ([], [])).2 then M (k + 1) l else LS M fs S k l

theorem LS_skip {M : Nat → Mem} {fs : List (List Loc × List Loc)} {S : Nat → Bool} {l : Loc} {i : Nat} : ∀ k, i ≤ k → (∀ j, i ≤ j → j < k → S j = true → l ∉ (fs.getD j ([], [])).2) → LS M fs S k l = LS M fs S i l
  | 0, h, _ => by have : i = 0 := by omega
                  subst this; rfl
  | k + 1, h, hs => by
    by_cases e : i = k + 1
    · subst e; rfl
    · simp only [LS]
      rw [if_neg (fun hc => hs k (by omega) (by omega) hc.1 hc.2)]
      exact LS_skip k (by omega) fun j h1 h2 => hs j h1 (by omega)

theorem LS_full {M : Nat → Mem} {fs : List (List Loc × List Loc)} {S : Nat → Bool} {l : Loc} : ∀ i, (∀ j, j < i → l ∈ (fs.getD j ([], [])).2 → S j = true) → (∀ j, j < i → l ∉ (fs.getD j ([], [])).2 → M (j + 1) l = M j l) → LS M fs S i l = M i l
  | 0, _, _ => rfl
  | k + 1, h1, h2 => by
    simp only [LS]
    by_cases hm : l ∈ (fs.getD k ([], [])).2
    · rw [if_pos ⟨h1 k (by omega) hm, hm⟩]
    · rw [if_neg (fun hc => hm hc.2), h2 k (by omega) hm]
      exact LS_full k (fun j hj => h1 j (by omega)) fun j hj => h2 j (by omega)

theorem LS_congr {M : Nat → Mem} {fs : List (List Loc × List Loc)} {S S' : Nat → Bool} {l : Loc} : ∀ k, (∀ j, j < k → l ∈ (fs.getD j ([], [])).2 → S j = S' j) → LS M fs S k l = LS M fs S' k l
  | 0, _ => rfl
  | k + 1, h => by
    simp only [LS]
    rw [LS_congr k fun j hj => h j (by omega)]
    by_cases hm : l ∈ (fs.getD k ([], [])).2
    · rw [h k (by omega) hm]
    · rw [if_neg (fun hc => hm hc.2), if_neg (fun hc => hm hc.2)]

theorem region_any (hlay : LayOK P lay) (hΓ : ∀ f ds d, Γ f ds d → Means P lay f ds d) (hm : P.follows .mixedOrders = true) {id : Nat} {L L' : Mem} {fs} {G : Gh} {a : Act} {w : World} (h : Chain Γ lay ops ops.toList L L' fs)
    (hind : indep ops.toList fs = true) (hn : ∀ o ∈ ops.toList, ∀ n, o.dst = some n → n < E.N) (ha : Abs E G L a w) (hQ : ∀ G' a' w', Abs E G' L' a' w' → Q .normal a' w') : (Code.region id ops true).wp P Q a w := by
  refine wp_region_any hm ?_
  obtain ⟨hfl, M, hM0, hMn, hrun⟩ := h.at
  simp only [indep, Bool.and_eq_true] at hind
  obtain ⟨hedge, hpair⟩ := hind
  have hget : ∀ i, i < ops.size → ∃ o f, ops[i]? = some o ∧ ops.toList[i]? = some o ∧ fs[i]? = some f ∧ Run Γ (gPr lay ops o) (M i) (M (i + 1)) f.1 f.2 := by
    intro i hi
    have h1 : ops.toList[i]? = some ops[i] := by simp [hi]
    obtain ⟨f, h2, h3⟩ := hrun i _ h1
    exact ⟨ops[i], f, by simp [hi], h1, h2, h3⟩
  let mk : Nat → Nat := fun j => (masksFrom ops.toList []).getD j 0
  -- what stands ahead of an operation, in a set that holds with each also what it waits for
  have hanc : ∀ (S : Nat → Bool), (∀ j o, ops[j]? = some o → S j = true → ∀ e ∈ o.after, Region.binds .any e = true → S e.on = true) →
      ∀ j o, ops[j]? = some o → (∀ e ∈ o.after, Region.binds .any e = true → S e.on = true) → ∀ i, (mk j).testBit i = true → S i = true := by
    intro S hdown j
    induction j using Nat.strongRecOn with
    | _ j ih =>
      intro o ho hpre i hb
      have hlt : j < ops.size := (Array.getElem?_eq_some_iff.1 ho).1
      have ho' : ops.toList[j]? = some o := by simpa using ho
      obtain ⟨acc, h1, h2, h3⟩ := (masksFrom_get ops.toList [] j).2 o ho'
      simp only [List.length_nil, Nat.zero_add] at h1 h2
      have hb' : (maskOf acc o).testBit i = true := by rw [← h2]; exact hb
      obtain ⟨e, he, hbi, hcase⟩ := maskOf_bit hb'
      have hon : e.on < j := by have := edgesOK_get hedge j o ho' e he hbi; omega
      rcases hcase with rfl | hbit
      · exact hpre e he hbi
      · obtain ⟨o2, f2, k1, k2, _⟩ := hget e.on (by omega)
        rw [h3 e.on (by omega)] at hbit
        exact ih e.on hon o2 k1 (hdown e.on o2 k1 (hpre e he hbi)) i hbit
  have hpr : ∀ i j fi fj, i < j → fs[i]? = some fi → fs[j]? = some fj → (mk j).testBit i = false → clash fi.2 fj.1 = false ∧ clash fi.2 fj.2 = false ∧ clash fj.2 fi.1 = false := by
    intro i j fi fj hij hi hj hb
    have := indepFrom_get hpair j fj hj i fi (by omega) hi
    simp only [Nat.zero_add, pairOK, Bool.or_eq_true, Bool.and_eq_true, Bool.not_eq_true'] at this
    rcases this with h1 | ⟨⟨h1, h2⟩, h3⟩
    · exact absurd h1 (by rw [show (masksFrom ops.toList []).getD j 0 = mk j from rfl, hb]; simp)
    · exact ⟨h1, h2, h3⟩
  -- the order, from any set on
  have main : ∀ (fuel : Nat) (listed : Array Bool) (G : Gh) (a : Act) (w : World), listed.size = ops.size → (List.range ops.size).countP (fun i => !listed.getD i true) = fuel →
      (∀ j o, ops[j]? = some o → listed.getD j true = true → ∀ e ∈ o.after, Region.binds .any e = true → listed.getD e.on true = true) →
      Abs E G (LS M fs (fun i => listed.getD i true) ops.size) a w → wpAny P .any ops Q fuel listed a w := by
    intro fuel
    induction fuel with
    | zero =>
      intro listed G a w hsz hcnt hdown hab
      have hall : ∀ i, i < ops.size → listed.getD i true = true := by
        intro i hi
        have := List.countP_eq_zero.1 hcnt i (by simpa using hi)
        simpa using this
      refine ⟨?_, ?_⟩
      · rw [List.eq_nil_iff_forall_not_mem]
        intro i hi
        rw [mem_ready] at hi
        obtain ⟨h0, o, ho, _⟩ := hi
        rw [hall i (Array.getElem?_eq_some_iff.1 ho).1] at h0
        cases h0
      · refine hQ G a w ?_
        have : LS M fs (fun i => listed.getD i true) ops.size = L' := by
          funext l
          rw [LS_full ops.size (fun j hj _ => hall j hj) (fun j hj hnm => ?_)]
          · rw [← hMn]; simp
          · obtain ⟨o, f, _, _, k3, k4⟩ := hget j hj
            rw [List.getD, k3] at hnm
            exact k4.other l hnm
        rw [← this]
        exact hab
    | succ fuel ih =>
      intro listed G a w hsz hcnt hdown hab
      have hex : ∃ i, i < ops.size ∧ listed.getD i true = false ∧ ∀ j, j < i → listed.getD j true = true := by
        have : ∃ i, i < ops.size ∧ listed.getD i true = false := by
          have hpos : 0 < (List.range ops.size).countP (fun i => !listed.getD i true) := by omega
          obtain ⟨i, h1, h2⟩ := List.countP_pos_iff.1 hpos
          exact ⟨i, by simpa using h1, by simpa using h2⟩
        obtain ⟨i, h1, h2⟩ := this
        induction i using Nat.strongRecOn with
        | _ i ihh =>
          by_cases hlow : ∃ j, j < i ∧ listed.getD j true = false
          · obtain ⟨j, hj, hj2⟩ := hlow
            exact ihh j hj (by omega) hj2
          · refine ⟨i, h1, h2, fun j hj => ?_⟩
            cases hc : listed.getD j true with
            | true => rfl
            | false => exact absurd ⟨j, hj, hc⟩ hlow
      have hfalse : ∀ j, listed.getD j false = true → listed.getD j true = true := by
        intro j hj
        by_cases hlt : j < listed.size
        · simpa [hlt] using hj
        · simp [hlt]
      have htrue : ∀ j, j < ops.size → listed.getD j true = true → listed.getD j false = true := by
        intro j hj h1
        simpa [show j < listed.size by omega] using h1
      refine ⟨fun hnil => ?_, fun i hi => ?_⟩
      · obtain ⟨i, h1, h2, h3⟩ := hex
        obtain ⟨o, f, k1, k2, _⟩ := hget i h1
        have : i ∈ Region.ready .any ops listed := by
          rw [mem_ready]
          refine ⟨h2, o, k1, fun e he hb => ?_⟩
          have hon : e.on < i := by have := edgesOK_get hedge i o k2 e he hb; omega
          exact htrue e.on (by omega) (h3 e.on hon)
        rw [hnil] at this
        cases this
      · rw [mem_ready] at hi
        obtain ⟨hun, o, ho, hpre⟩ := hi
        have hlt : i < ops.size := (Array.getElem?_eq_some_iff.1 ho).1
        obtain ⟨o', f, k1, k2, k3, k4⟩ := hget i hlt
        rw [ho] at k1
        cases k1
        have hpre' : ∀ e ∈ o.after, Region.binds .any e = true → listed.getD e.on true = true := fun e he hb => hfalse _ (hpre e he hb)
        have hanc_i := hanc (fun i => listed.getD i true) hdown i o ho hpre'
        -- ahead and behind
        have hbehind : ∀ j, i < j → j < ops.size → listed.getD j true = true → (mk j).testBit i = false := by
          intro j hij hj hlj
          obtain ⟨oj, fj, m1, _⟩ := hget j hj
          cases hb : (mk j).testBit i with
          | false => rfl
          | true =>
            have h9 : listed.getD i true = true := hanc (fun i => listed.getD i true) hdown j oj m1 (hdown j oj m1 hlj) i hb
            rw [hun] at h9
            cases h9
        -- what it reads is as in the text's order
        have hread : ∀ l ∈ f.1, LS M fs (fun i => listed.getD i true) ops.size l = M i l := by
          intro l hl
          rw [LS_skip (i := i) ops.size (by omega) (fun j hij hj hlj hm => ?_), LS_full i (fun j hj hm => ?_) (fun j hj hnm => ?_)]
          · obtain ⟨oj, fj, _, _, m3, _⟩ := hget j (by omega)
            rw [List.getD, m3] at hm
            cases hc : listed.getD j true with
            | true => rfl
            | false =>
              have hbit : (mk i).testBit j = false := by
                cases hb : (mk i).testBit j with
                | false => rfl
                | true => have h9 : listed.getD j true = true := hanc_i j hb; rw [hc] at h9; cases h9
              exact absurd hl (clash_false (hpr j i fj f hj m3 k3 hbit).1 l hm)
          · obtain ⟨oj, fj, _, _, m3, m4⟩ := hget j (by omega)
            rw [List.getD, m3] at hnm
            exact m4.other l hnm
          · have hij' : i < j := by
              rcases Nat.lt_or_eq_of_le hij with h | h
              · exact h
              · subst h; rw [hun] at hlj; cases hlj
            obtain ⟨oj, fj, _, _, m3, _⟩ := hget j hj
            rw [List.getD, m3] at hm
            exact clash_false (hpr i j f fj hij' k3 m3 (hbehind j hij' hj hlj)).2.2 l hm hl
        obtain ⟨M', hr', hw'⟩ := k4.frame (LS M fs (fun i => listed.getD i true) ops.size) hread
        have hnew : LS M fs (fun j => (listed.setIfInBounds i true).getD j true) ops.size = M' := by
          funext l
          have hgd : ∀ j, (listed.setIfInBounds i true).getD j true = if j = i then true else listed.getD j true := by
            intro j
            by_cases e : j = i
            · subst e
              rw [if_pos rfl, Array.getD_eq_getD_getElem?, Array.getElem?_setIfInBounds_self_of_lt (by omega)]
              rfl
            · rw [if_neg e]
              exact getD_set_ne true (Ne.symm e)
          by_cases hm : l ∈ f.2
          · rw [hw' l hm]
            rw [LS_skip (i := i + 1) ops.size (by omega) (fun j hij hj hlj hmm => ?_)]
            · simp only [LS]
              rw [if_pos ⟨by rw [hgd, if_pos rfl], by rw [List.getD, k3]; exact hm⟩]
            · rw [hgd, if_neg (by omega)] at hlj
              obtain ⟨oj, fj, _, _, m3, _⟩ := hget j hj
              rw [List.getD, m3] at hmm
              exact clash_false (hpr i j f fj (by omega) k3 m3 (hbehind j (by omega) hj hlj)).2.1 l hm hmm
          · rw [hr'.other l hm]
            refine LS_congr ops.size fun j hj hmm => ?_
            rw [hgd]
            by_cases e : j = i
            · subst e
              rw [List.getD, k3] at hmm
              exact absurd hmm hm
            · rw [if_neg e]
        refine gop_sound hlay hΓ ho hr' hab (hn o (Array.mem_toList_iff.2 (Array.mem_of_getElem? ho))) fun G' a' w' ha' => ?_
        refine ih (listed.setIfInBounds i true) G' a' w' (by simpa using hsz) ?_ ?_ (by rw [hnew]; exact ha')
        · have hcount : (List.range ops.size).countP (fun j => !listed.getD j true) = (List.range ops.size).countP (fun j => !(listed.setIfInBounds i true).getD j true) + 1 := by
            have key : ∀ n, (List.range n).countP (fun j => !listed.getD j true) = (List.range n).countP (fun j => !(listed.setIfInBounds i true).getD j true) + if i < n then 1 else 0 := by
              intro n
              induction n with
              | zero => simp
              | succ n ihn =>
                rw [List.range_succ, List.countP_append, List.countP_append, ihn]
                simp only [List.countP_singleton]
                by_cases e : n = i
                · subst e
                  have h1 : (listed.setIfInBounds n true).getD n true = true := by
                    rw [Array.getD_eq_getD_getElem?, Array.getElem?_setIfInBounds_self_of_lt (by omega)]; rfl
                  rw [hun, h1]
                  simp
                · rw [getD_set_ne true (Ne.symm e)]
                  by_cases h2 : i < n
                  · simp [h2, show i < n + 1 by omega]; omega
                  · simp [h2, show ¬ i < n + 1 by omega]
            rw [key ops.size, if_pos hlt]
          omega
        · intro j oj hj hlj e he hb
          by_cases e' : e.on = i
          · rw [e', Array.getD_eq_getD_getElem?, Array.getElem?_setIfInBounds_self_of_lt (by omega)]; rfl
          · rw [getD_set_ne true (Ne.symm e')]
            by_cases e2 : j = i
            · subst e2
              rw [ho] at hj
              cases hj
              exact hpre' e he hb
            · rw [getD_set_ne true (Ne.symm e2)] at hlj
              exact hdown j oj hj hlj e he hb
  refine main ops.size (Array.replicate ops.size false) G a w.drew (by simp) ?_ ?_ ?_
  · rw [List.countP_eq_length.2]
    · simp
    · intro i hi
      have hi : i < ops.size := by simpa using hi
      simp [hi]
  · intro j o ho hj
    have hlt : j < ops.size := (Array.getElem?_eq_some_iff.1 ho).1
    simp [hlt] at hj
  · have : LS M fs (fun i => (Array.replicate ops.size false).getD i true) ops.size = L := by
      funext l
      rw [LS_skip (i := 0) ops.size (Nat.zero_le _) (fun j _ hj hlj => ?_)]
      · exact congrFun hM0 l
      · simp [hj] at hlj
    rw [this]
    exact ha.drew

end
end Go.Proofs.YtllhidkadhoipaaDoor.Ab
