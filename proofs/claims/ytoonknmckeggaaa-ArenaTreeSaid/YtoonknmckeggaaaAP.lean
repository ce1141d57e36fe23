/- Arenas, as lists of data and parents. No program in sight but for what its functions are as Lean functions. -/
import Derived.Test.YtoonknmckeggaaaGB
import Derived.Test.YtoonknmckeggaaaC24
import Derived.KernelRfl
namespace Go.Proofs.Ytoonknmckeggaaa.Ab.Ar
open Go Go.RowKit
set_option maxRecDepth 100000
set_option linter.unusedVariables false
set_option linter.unusedSimpArgs false

/-! ### Kids by parents -/

def KA (i : Int) : List Int → Nat → List Nat
  | [], _ => []
  | q :: r, a => if q = i then a :: KA i r (a + 1) else KA i r (a + 1)

def K (ps : List Int) (i : Int) (a : Nat) : List Nat := KA i (ps.drop a) a

theorem KA_append (i : Int) (s : List Int) : ∀ (r : List Int) (a : Nat), KA i (r ++ s) a = KA i r a ++ KA i s (a + r.length)
  | [], a => by simp [KA]
  | q :: r, a => by
    simp only [List.cons_append, KA, KA_append i s r (a + 1), List.length_cons]
    have e : a + 1 + r.length = a + (r.length + 1) := by omega
    rw [e]
    split <;> rfl

theorem K_append {ps : List Int} {p i : Int} {a : Nat} (h : a ≤ ps.length) : K (ps ++ [p]) i a = K ps i a ++ (if p = i then [ps.length] else []) := by
  unfold K
  rw [List.drop_append_of_le_length h, KA_append]
  congr 1
  simp only [KA, List.length_drop]
  rw [show a + (ps.length - a) = ps.length by omega]

theorem K_ge {ps : List Int} {i : Int} {a : Nat} (h : ps.length ≤ a) : K ps i a = [] := by
  unfold K
  rw [List.drop_eq_nil_of_le h]
  rfl

theorem K_step {ps : List Int} {i : Int} {a : Nat} (h : a < ps.length) : K ps i a = if ps[a] = i then a :: K ps i (a + 1) else K ps i (a + 1) := by
  unfold K
  rw [List.drop_eq_getElem_cons h]
  rfl

theorem mem_K {ps : List Int} {i : Int} {j : Nat} : ∀ {m a : Nat}, ps.length - a = m → (j ∈ K ps i a ↔ a ≤ j ∧ ps[j]? = some i)
  | 0, a, h => by
    rw [K_ge (by omega)]
    constructor
    · intro h; cases h
    · rintro ⟨h1, h2⟩
      have := (List.getElem?_eq_some_iff.1 h2).1
      omega
  | m + 1, a, h => by
    have ha : a < ps.length := by omega
    rw [K_step ha]
    have ih := mem_K (ps := ps) (i := i) (j := j) (m := m) (a := a + 1) (by omega)
    split
    · rename_i e
      rw [List.mem_cons, ih]
      constructor
      · rintro (rfl | ⟨h1, h2⟩)
        · exact ⟨Nat.le_refl _, by rw [List.getElem?_eq_getElem ha, e]⟩
        · exact ⟨by omega, h2⟩
      · rintro ⟨h1, h2⟩
        by_cases hj : j = a
        · exact .inl hj
        · exact .inr ⟨by omega, h2⟩
    · rename_i e
      rw [ih]
      constructor
      · rintro ⟨h1, h2⟩; exact ⟨by omega, h2⟩
      · rintro ⟨h1, h2⟩
        refine ⟨?_, h2⟩
        by_cases hj : j = a
        · subst hj
          rw [List.getElem?_eq_getElem ha] at h2
          exact absurd (Option.some.inj h2) e
        · omega

theorem mem_K' {ps : List Int} {i : Int} {a j : Nat} : j ∈ K ps i a ↔ a ≤ j ∧ ps[j]? = some i := mem_K rfl

def hd : List Nat → Int
  | [] => -1
  | j :: _ => (j : Int)
def lastI (l : List Nat) : Int :=
  match l.getLast? with
  | none => -1
  | some j => (j : Int)

/-- The last of the kids. -/
theorem last_K {ps : List Int} {i : Int} : ∀ {m a : Nat}, ps.length - a = m → ∀ {l : Nat}, (K ps i a).getLast? = some l → a ≤ l ∧ ps[l]? = some i ∧ K ps i (l + 1) = []
  | 0, a, h, l, hl => by rw [K_ge (by omega)] at hl; cases hl
  | m + 1, a, h, l, hl => by
    have ha : a < ps.length := by omega
    rw [K_step ha] at hl
    split at hl
    · rename_i e
      cases hk : K ps i (a + 1) with
      | nil =>
        rw [hk] at hl
        have : a = l := by simpa using hl
        subst this
        exact ⟨Nat.le_refl _, by rw [List.getElem?_eq_getElem ha, e], hk⟩
      | cons x r =>
        rw [hk] at hl
        have hl' : (K ps i (a + 1)).getLast? = some l := by rw [hk]; simpa [List.getLast?_cons_cons] using hl
        obtain ⟨h1, h2⟩ := last_K (m := m) (by omega) hl'
        exact ⟨by omega, h2⟩
    · obtain ⟨h1, h2⟩ := last_K (m := m) (by omega) hl
      exact ⟨by omega, h2⟩

/-! ### Arenas -/

abbrev Dt := Int × Bool × Int × List UInt8 × List UInt8
abbrev NI := Int × Bool × Int × List UInt8 × List UInt8 × Int × Int × Unit

def dtOf (ds : List Dt) (i : Nat) : Dt := ds.getD i (0, false, 0, [], [])
def parOf (ps : List Int) (i : Nat) : Int := ps.getD i (-1)

def mk35 (d : Dt) (f x : Int) : NI := (d.1, d.2.1, d.2.2.1, d.2.2.2.1, d.2.2.2.2, f, x, ())

def node (ds : List Dt) (ps : List Int) (i : Nat) : NodeI :=
  (mk35 (dtOf ds i) (hd (K ps (i : Int) 0)) (hd (K ps (parOf ps i) (i + 1))), parOf ps i, lastI (K ps (i : Int) 0), ())

def build (ds : List Dt) (ps : List Int) : List NodeI := (List.range ps.length).map (node ds ps)

@[simp] theorem build_length (ds : List Dt) (ps : List Int) : (build ds ps).length = ps.length := by simp [build]

theorem build_getD {ds : List Dt} {ps : List Int} {i : Nat} (h : i < ps.length) (d : NodeI) : (build ds ps).getD i d = node ds ps i := by
  simp [build, List.getD, h]

/-- An arena in order. -/
structure Ok (ds : List Dt) (ps : List Int) : Prop where
  len : ds.length = ps.length
  le : ps.length ≤ 200
  par : ∀ (i : Nat) (q : Int), ps[i]? = some q → (i = 0 ∧ q = -1) ∨ (0 ≤ q ∧ q < (i : Int))
  kind : ∀ (i : Nat) (d : Dt), ds[i]? = some d → 1 ≤ d.1 ∧ d.1 ≤ 6

theorem range_set {α : Type} (f : Nat → α) (n i : Nat) (x : α) : ((List.range n).map f).set i x = (List.range n).map fun j => if j = i then x else f j := by
  apply List.ext_getElem?
  intro j
  simp only [List.getElem?_set, List.getElem?_map, List.length_map, List.length_range]
  by_cases hj : j < n
  · rw [List.getElem?_range hj]
    by_cases h : i = j
    · subst h; simp [hj]
    · simp [h, Ne.symm h]
  · have : (List.range n)[j]? = none := by simp; omega
    rw [this]
    by_cases h : i = j
    · subst h; simp [hj]
    · simp [h]

theorem range_snoc {α : Type} (f g : Nat → α) (n : Nat) (y : α) (h1 : ∀ j, j < n → f j = g j) (h2 : y = g n) : (List.range n).map f ++ [y] = (List.range (n + 1)).map g := by
  rw [List.range_succ, List.map_append, h2]
  congr 1
  exact List.map_congr_left fun j hj => h1 j (List.mem_range.1 hj)

theorem hd_append (l m : List Nat) : hd (l ++ m) = if l = [] then hd m else hd l := by
  cases l <;> simp [hd]
theorem lastI_append_one (l : List Nat) (k : Nat) : lastI (l ++ [k]) = k := by simp [lastI]
theorem lastI_nil : lastI [] = -1 := rfl
theorem hd_nil : hd [] = -1 := rfl

theorem parOf_lt {ps : List Int} {i : Nat} (h : i < ps.length) : ps[i]? = some (parOf ps i) := by
  unfold parOf; rw [List.getD_eq_getElem?_getD, List.getElem?_eq_getElem h]; rfl

/-- The arena with one node more. -/
theorem node_snoc {ds : List Dt} {ps : List Int} {d : Dt} {p : Int} (hl : ds.length = ps.length) {j : Nat} (hj : j < ps.length) :
    node (ds ++ [d]) (ps ++ [p]) j = (mk35 (dtOf ds j) (if K ps (j : Int) 0 = [] then (if p = (j : Int) then (ps.length : Int) else -1) else hd (K ps (j : Int) 0))
      (if K ps (parOf ps j) (j + 1) = [] then (if p = parOf ps j then (ps.length : Int) else -1) else hd (K ps (parOf ps j) (j + 1))),
      parOf ps j, if p = (j : Int) then (ps.length : Int) else lastI (K ps (j : Int) 0), ()) := by
  have e1 : dtOf (ds ++ [d]) j = dtOf ds j := by simp [dtOf, List.getD, List.getElem?_append_left (show j < ds.length by omega)]
  have e2 : parOf (ps ++ [p]) j = parOf ps j := by simp [parOf, List.getD, List.getElem?_append_left hj]
  unfold node
  rw [e1, e2, K_append (Nat.zero_le _), K_append (by omega), hd_append, hd_append]
  have e3 : ∀ q : Int, hd (if p = q then [ps.length] else []) = if p = q then (ps.length : Int) else -1 := fun q => by split <;> rfl
  rw [e3, e3]
  congr 3
  split
  · rw [lastI_append_one]
  · rw [List.append_nil]

theorem node_last {ds : List Dt} {ps : List Int} {d : Dt} {p : Int} (h : Ok ds ps) (hp : p < (ps.length : Int)) : node (ds ++ [d]) (ps ++ [p]) ps.length = (mk35 d (-1) (-1), p, -1, ()) := by
  have e1 : dtOf (ds ++ [d]) ps.length = d := by rw [← h.len]; simp [dtOf, List.getD]
  have e2 : parOf (ps ++ [p]) ps.length = p := by simp [parOf, List.getD]
  have e3 : K (ps ++ [p]) (ps.length : Int) 0 = [] := by
    rw [K_append (Nat.zero_le _), if_neg (by omega), List.append_nil]
    rw [List.eq_nil_iff_forall_not_mem]
    intro j hj
    obtain ⟨_, h1⟩ := mem_K'.1 hj
    have := (List.getElem?_eq_some_iff.1 h1).1
    rcases h.par _ _ h1 with ⟨_, h2⟩ | ⟨_, h2⟩ <;> omega
  unfold node
  rw [e1, e2, e3, K_ge (by simp)]
  rfl

end Go.Proofs.Ytoonknmckeggaaa.Ab.Ar
