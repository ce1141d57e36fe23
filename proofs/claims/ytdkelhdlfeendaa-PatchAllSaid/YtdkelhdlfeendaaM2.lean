/- What Build makes of the rows. -/
import Derived.Test.YtdkelhdlfeendaaQB
namespace Go.Proofs.Ytdkelhdlfeendaa.Ab
open Go Go.RowKit Go.Proofs
set_option linter.unusedSimpArgs false
set_option linter.unusedVariables false
set_option maxRecDepth 100000

abbrev MI := List (Int × Int)
abbrev MP := List (Int × List Int)
abbrev MJ := List (List Int × Int)
abbrev TT := MI × (MP × (MI × (MJ × (MI × (Int × Unit)))))

theorem inb_pre {α : Type} (pre : List α) (x : α) (suf : List α) : inB (pre.length : Int) (pre ++ x :: suf).length = true := by
  unfold inB; simp; omega
theorem get_pre {α : Type} (pre : List α) (x d : α) (suf : List α) : (pre ++ x :: suf).getD (Int.toNat (pre.length : Int)) d = x := by simp
theorem lt_pre' {α : Type} (pre : List α) (x : α) (suf : List α) : decide ((pre.length : Int) < ((pre ++ x :: suf).length : Int)) = true := by simp; omega
theorem inb_lit {α : Type} {row : List α} {k : Nat} (h : k < row.length) : inB (k : Int) row.length = true := by
  unfold inB; simp; omega

/-- A run of characters of one class. -/
def runC : Nat → Int → Int → MI → Int × MI
  | 0, at_, _, m => (at_, m)
  | k + 1, at_, v, m => runC k (IntKind.wrap .i32 (at_ + 1)) v (mapPut (Ty.beq (.int .i32)) m at_ v)

def nth (row : List Int) (k : Nat) : Int := row.getD k 0

def buildC : List (List Int) → Int → MI → MI
  | [], _, m => m
  | row :: l, at_, m => buildC l (runC (nth row 1).toNat (IntKind.wrap .i32 (at_ + nth row 0)) (IntKind.wrap .i64 (nth row 2)) m).1 (runC (nth row 1).toNat (IntKind.wrap .i32 (at_ + nth row 0)) (IntKind.wrap .i64 (nth row 2)) m).2

structure PSt where
  p : MP
  j : MJ
  s : MI
  k : Int

def buildP : List (List Int) → Int → PSt → PSt
  | [], _, q => q
  | row :: l, at_, q =>
    bif decide ((row.length : Int) > 3) then
      buildP l (IntKind.wrap .i32 (at_ + nth row 0)) ⟨mapPut (Ty.beq (.int .i32)) q.p (IntKind.wrap .i32 (at_ + nth row 0)) [nth row 1, nth row 2], q.j, q.s, IntKind.wrap .i64 (q.k + 1)⟩
    else
      buildP l (IntKind.wrap .i32 (at_ + nth row 0)) ⟨mapPut (Ty.beq (.int .i32)) q.p (IntKind.wrap .i32 (at_ + nth row 0)) [nth row 1, nth row 2],
        mapPut (Ty.beq (.arr 2 (.int .i32))) q.j [nth row 1, nth row 2] (IntKind.wrap .i32 (at_ + nth row 0)), mapPut (Ty.beq (.int .i32)) q.s (nth row 2) 1, q.k⟩

def buildS : List (List Int) → Int → MI → MI
  | [], _, m => m
  | row :: l, at_, m => buildS l (IntKind.wrap .i32 (at_ + nth row 0)) (mapPut (Ty.beq (.int .i32)) m (IntKind.wrap .i32 (at_ + nth row 0)) (nth row 1))

def okC (row : List Int) : Bool := Nat.ble 3 row.length && decide (0 ≤ nth row 1) && decide (nth row 1 ≤ 10000)
def okP (row : List Int) : Bool := Nat.ble 3 row.length
def okS (row : List Int) : Bool := Nat.ble 2 row.length

section
variable {n : Nat} {r0 : Int → List (List Int) → Int → MI → MP → MI → MJ → MI → Int → Option (Option TT)} {b1 : MP} {b2 : MI} {b3 : MJ} {b4 : MI} {b5 : Int} {pre suf : List (List Int)} {row : List Int}

theorem l3_ok (h3 : 3 ≤ row.length) (hr : nth row 1 ≤ 10000) (hpl : pre.length ≤ 1000000) : ∀ (k m : Nat) (at_ j : Int) (b0 : MI), k < m → 0 ≤ j → j + k = nth row 1 →
    F11l3 n r0 m at_ (pre ++ row :: suf) (pre.length : Int) j b0 b1 b2 b3 b4 b5 =
      r0 (runC k at_ (IntKind.wrap .i64 (nth row 2)) b0).1 (pre ++ row :: suf) ((pre.length : Int) + 1) (runC k at_ (IntKind.wrap .i64 (nth row 2)) b0).2 b1 b2 b3 b4 b5
  | 0, m + 1, at_, j, b0, hm, h0, hj => by
    show F11l3F n r0 (F11l3 n r0 m) at_ (pre ++ row :: suf) (pre.length : Int) j b0 b1 b2 b3 b4 b5 = _
    unfold F11l3F
    rw [inb_pre, get_pre]
    rw [show inB 1 row.length = true from inb_lit (k := 1) (by omega)]
    simp only [cond_true]
    rw [show row.getD (Int.toNat 1) (Ty.dflt (.int .i32)) = nth row 1 from rfl, decide_eq_false (by omega : ¬ (j < nth row 1))]
    simp only [cond_false]
    rw [wrap64 (by omega) (by omega)]
    rfl
  | k + 1, m + 1, at_, j, b0, hm, h0, hj => by
    show F11l3F n r0 (F11l3 n r0 m) at_ (pre ++ row :: suf) (pre.length : Int) j b0 b1 b2 b3 b4 b5 = _
    unfold F11l3F
    rw [inb_pre, get_pre]
    rw [show inB 1 row.length = true from inb_lit (k := 1) (by omega), show inB 2 row.length = true from inb_lit (k := 2) (by omega)]
    simp only [cond_true]
    rw [show row.getD (Int.toNat 1) (Ty.dflt (.int .i32)) = nth row 1 from rfl, decide_eq_true (by omega : j < nth row 1)]
    simp only [cond_true]
    have hw : IntKind.wrap .i32 (j + 1) = j + 1 := by
      unfold IntKind.wrap
      simp [IntKind.bits, IntKind.signed]
      omega
    rw [hw, show row.getD (Int.toNat 2) (Ty.dflt (.int .i32)) = nth row 2 from rfl]
    exact l3_ok h3 hr hpl k m _ _ _ (by omega) (by omega) (by omega)
  | 0, 0, _, _, _, hm, _, _ => by omega
  | _ + 1, 0, _, _, _, hm, _, _ => by omega

theorem l2_ok : ∀ (suf pre : List (List Int)) (m : Nat) (at_ : Int) (b0 b2 : MI), suf.length < m → (pre ++ suf).length ≤ 1000000 → suf.all okS = true →
    F11l2 n m at_ (pre ++ suf) (pre.length : Int) b0 b1 b2 b3 b4 b5 = some (some (b0, (b1, (buildS suf at_ b2, (b3, (b4, (b5, ())))))))
  | [], pre, m + 1, at_, b0, b2, hm, hl, hs => by
    show F11l2F n (F11l2 n m) at_ (pre ++ []) (pre.length : Int) b0 b1 b2 b3 b4 b5 = _
    unfold F11l2F
    rw [List.append_nil, decide_eq_false (by omega)]
    rfl
  | row :: suf, pre, m + 1, at_, b0, b2, hm, hl, hs => by
    simp only [List.all_cons, Bool.and_eq_true] at hs
    have h2 : 2 ≤ row.length := Nat.le_of_ble_eq_true hs.1
    simp only [List.length_append, List.length_cons] at hl hm
    show F11l2F n (F11l2 n m) at_ (pre ++ row :: suf) (pre.length : Int) b0 b1 b2 b3 b4 b5 = _
    unfold F11l2F
    rw [lt_pre', inb_pre, get_pre]
    rw [show inB 0 row.length = true from inb_lit (k := 0) (by omega), show inB 1 row.length = true from inb_lit (k := 1) (by omega)]
    simp only [cond_true]
    rw [show row.getD (Int.toNat 0) (Ty.dflt (.int .i32)) = nth row 0 from rfl, show row.getD (Int.toNat 1) (Ty.dflt (.int .i32)) = nth row 1 from rfl, wrap64 (by omega) (by omega)]
    have ih := l2_ok suf (pre ++ [row]) m (IntKind.wrap .i32 (at_ + nth row 0)) b0 (mapPut (Ty.beq (.int .i32)) b2 (IntKind.wrap .i32 (at_ + nth row 0)) (nth row 1)) (by omega) (by simp; omega) hs.2
    simp only [List.append_assoc, List.singleton_append, List.length_append, List.length_singleton, Int.natCast_add, Int.natCast_one] at ih
    exact ih
  | [], _, 0, _, _, _, hm, _, _ => by omega
  | _ :: _, _, 0, _, _, _, hm, _, _ => by omega
end

theorem l1_ok {n : Nat} (hn : 90000 < n) {b0 b2 : MI} (hS : rowsS.all okS = true) (hSl : rowsS.length ≤ 80000) : ∀ (suf pre : List (List Int)) (m : Nat) (at_ : Int) (q : PSt), suf.length < m → (pre ++ suf).length ≤ 1000000 → suf.all okP = true →
    F11l1 n m at_ (pre ++ suf) (pre.length : Int) b0 q.p b2 q.j q.s q.k =
      some (some (b0, ((buildP suf at_ q).p, (buildS rowsS 0 b2, ((buildP suf at_ q).j, ((buildP suf at_ q).s, ((buildP suf at_ q).k, ())))))))
  | [], pre, m + 1, at_, q, hm, hl, hs => by
    show F11l1F n (F11l1 n m) at_ (pre ++ []) (pre.length : Int) b0 q.p b2 q.j q.s q.k = _
    unfold F11l1F
    rw [List.append_nil, decide_eq_false (by omega)]
    simp only [cond_false]
    have e := F22S hn
    unfold txtS at e
    rw [e]
    have := l2_ok (n := n) (b1 := q.p) (b3 := q.j) (b4 := q.s) (b5 := q.k) rowsS [] n 0 b0 b2 (by omega) (by simp; omega) hS
    exact this
  | row :: suf, pre, m + 1, at_, q, hm, hl, hs => by
    simp only [List.all_cons, Bool.and_eq_true] at hs
    have h2 : 3 ≤ row.length := Nat.le_of_ble_eq_true hs.1
    simp only [List.length_append, List.length_cons] at hl hm
    show F11l1F n (F11l1 n m) at_ (pre ++ row :: suf) (pre.length : Int) b0 q.p b2 q.j q.s q.k = _
    unfold F11l1F
    rw [lt_pre', inb_pre, get_pre]
    rw [show inB 0 row.length = true from inb_lit (k := 0) (by omega), show inB 1 row.length = true from inb_lit (k := 1) (by omega), show inB 2 row.length = true from inb_lit (k := 2) (by omega)]
    simp only [cond_true]
    rw [show row.getD (Int.toNat 0) (Ty.dflt (.int .i32)) = nth row 0 from rfl, show row.getD (Int.toNat 1) (Ty.dflt (.int .i32)) = nth row 1 from rfl, show row.getD (Int.toNat 2) (Ty.dflt (.int .i32)) = nth row 2 from rfl, wrap64 (i := (pre.length : Int) + 1) (by omega) (by omega)]
    unfold buildP
    cases decide ((row.length : Int) > 3)
    · have ih := l1_ok (b0 := b0) (b2 := b2) hn hS hSl suf (pre ++ [row]) m (IntKind.wrap .i32 (at_ + nth row 0)) ⟨mapPut (Ty.beq (.int .i32)) q.p (IntKind.wrap .i32 (at_ + nth row 0)) [nth row 1, nth row 2],
        mapPut (Ty.beq (.arr 2 (.int .i32))) q.j [nth row 1, nth row 2] (IntKind.wrap .i32 (at_ + nth row 0)), mapPut (Ty.beq (.int .i32)) q.s (nth row 2) 1, q.k⟩ (by omega) (by simp; omega) hs.2
      simp only [List.append_assoc, List.singleton_append, List.length_append, List.length_singleton, Int.natCast_add, Int.natCast_one] at ih
      exact ih
    · have ih := l1_ok (b0 := b0) (b2 := b2) hn hS hSl suf (pre ++ [row]) m (IntKind.wrap .i32 (at_ + nth row 0)) ⟨mapPut (Ty.beq (.int .i32)) q.p (IntKind.wrap .i32 (at_ + nth row 0)) [nth row 1, nth row 2], q.j, q.s, IntKind.wrap .i64 (q.k + 1)⟩ (by omega) (by simp; omega) hs.2
      simp only [List.append_assoc, List.singleton_append, List.length_append, List.length_singleton, Int.natCast_add, Int.natCast_one] at ih
      exact ih
  | [], _, 0, _, _, hm, _, _ => by omega
  | _ :: _, _, 0, _, _, hm, _, _ => by omega

theorem l0b_ok {n : Nat} (hn : 90000 < n) (hS : rowsS.all okS = true) (hSl : rowsS.length ≤ 80000) (hP : rowsP.all okP = true) (hPl : rowsP.length ≤ 80000) {b2 : MI} {q : PSt} : ∀ (suf pre : List (List Int)) (m : Nat) (at_ : Int) (b0 : MI), suf.length < m → (pre ++ suf).length ≤ 1000000 → suf.all okC = true →
    F11l0 n m at_ (pre ++ suf) (pre.length : Int) b0 q.p b2 q.j q.s q.k =
      some (some (buildC suf at_ b0, ((buildP rowsP 0 q).p, (buildS rowsS 0 b2, ((buildP rowsP 0 q).j, ((buildP rowsP 0 q).s, ((buildP rowsP 0 q).k, ())))))))
  | [], pre, m + 1, at_, b0, hm, hl, hs => by
    show F11l0F n (F11l0 n m) at_ (pre ++ []) (pre.length : Int) b0 q.p b2 q.j q.s q.k = _
    unfold F11l0F
    rw [List.append_nil, decide_eq_false (by omega)]
    simp only [cond_false]
    have e := F22P hn
    unfold txtP at e
    rw [e]
    exact l1_ok hn hS hSl rowsP [] n 0 q (by omega) (by simp; omega) hP
  | row :: suf, pre, m + 1, at_, b0, hm, hl, hs => by
    simp only [List.all_cons, Bool.and_eq_true] at hs
    obtain ⟨h1, hs⟩ := hs
    simp only [okC, Bool.and_eq_true, decide_eq_true_eq] at h1
    have h2 : 3 ≤ row.length := Nat.le_of_ble_eq_true h1.1.1
    simp only [List.length_append, List.length_cons] at hl hm
    show F11l0F n (F11l0 n m) at_ (pre ++ row :: suf) (pre.length : Int) b0 q.p b2 q.j q.s q.k = _
    unfold F11l0F
    rw [lt_pre', inb_pre, get_pre]
    rw [show inB 0 row.length = true from inb_lit (k := 0) (by omega)]
    simp only [cond_true]
    rw [show row.getD (Int.toNat 0) (Ty.dflt (.int .i32)) = nth row 0 from rfl]
    rw [l3_ok h2 h1.2 (by omega) (nth row 1).toNat n _ 0 b0 (by omega) (by omega) (by omega)]
    have ih := l0b_ok (b2 := b2) (q := q) hn hS hSl hP hPl suf (pre ++ [row]) m (runC (nth row 1).toNat (IntKind.wrap .i32 (at_ + nth row 0)) (IntKind.wrap .i64 (nth row 2)) b0).1 (runC (nth row 1).toNat (IntKind.wrap .i32 (at_ + nth row 0)) (IntKind.wrap .i64 (nth row 2)) b0).2 (by omega) (by simp; omega) hs
    simp only [List.append_assoc, List.singleton_append, List.length_append, List.length_singleton, Int.natCast_add, Int.natCast_one] at ih
    exact ih
  | [], _, 0, _, _, hm, _, _ => by omega
  | _ :: _, _, 0, _, _, hm, _, _ => by omega

/-- The tables. -/
def tabs : TT := (buildC rowsC 0 [], ((buildP rowsP 0 ⟨[], [], [], 0⟩).p, (buildS rowsS 0 [], ((buildP rowsP 0 ⟨[], [], [], 0⟩).j, ((buildP rowsP 0 ⟨[], [], [], 0⟩).s, ((buildP rowsP 0 ⟨[], [], [], 0⟩).k, ()))))))

theorem rows_fit : rowsC.all okC = true ∧ rowsP.all okP = true ∧ rowsS.all okS = true ∧ Nat.ble rowsC.length 80000 = true ∧ Nat.ble rowsP.length 80000 = true ∧ Nat.ble rowsS.length 80000 = true := by
  refine ⟨?_, ?_, ?_, ?_, ?_, ?_⟩ <;> kernel_rfl

theorem F11_ok {n : Nat} (hn : 90000 < n) : F11 n = some (some tabs) := by
  obtain ⟨hC, hP, hS, hCl, hPl, hSl⟩ := rows_fit
  have hCl := Nat.le_of_ble_eq_true hCl
  have hPl := Nat.le_of_ble_eq_true hPl
  have hSl := Nat.le_of_ble_eq_true hSl
  unfold F11
  have e := F22C hn
  unfold txtC at e
  rw [e]
  exact l0b_ok hn hS hSl hP hPl (b2 := []) (q := ⟨[], [], [], 0⟩) rowsC [] n 0 [] (by omega) (by simp; omega) hC

end Go.Proofs.Ytdkelhdlfeendaa.Ab

/- Search trees for maps; the tables' pairs and singles as lists. -/
namespace Go.Proofs.Ytdkelhdlfeendaa.Ab
open Go Go.RowKit Go.Proofs
set_option linter.unusedSimpArgs false
set_option linter.unusedVariables false

inductive Tr (β : Type) where
  | nil
  | node (l : Tr β) (k : Int) (v : β) (r : Tr β)

def Tr.toList {β : Type} : Tr β → List (Int × β)
  | .nil => []
  | .node l k v r => l.toList ++ (k, v) :: r.toList

def Tr.get {β : Type} : Tr β → Int → Option β
  | .nil, _ => none
  | .node l k v r, c => bif c == k then some v else bif decide (c < k) then l.get c else r.get c

def Tr.ok {β : Type} : Tr β → Int → Int → Bool
  | .nil, _, _ => true
  | .node l k _ r, lo, hi => decide (lo < k) && decide (k < hi) && l.ok lo k && r.ok k hi

theorem Tr.bounds {β : Type} : ∀ {t : Tr β} {lo hi : Int}, t.ok lo hi = true → ∀ p ∈ t.toList, lo < p.1 ∧ p.1 < hi
  | .nil, _, _, _, p, hp => by simp [Tr.toList] at hp
  | .node l k v r, lo, hi, h, p, hp => by
    simp only [Tr.ok, Bool.and_eq_true, decide_eq_true_eq] at h
    obtain ⟨⟨⟨h1, h2⟩, h3⟩, h4⟩ := h
    simp only [Tr.toList, List.mem_append, List.mem_cons] at hp
    rcases hp with hp | rfl | hp
    · have := Tr.bounds h3 p hp; omega
    · exact ⟨h1, h2⟩
    · have := Tr.bounds h4 p hp; omega

theorem Tr.sorted {β : Type} : ∀ {t : Tr β} {lo hi : Int}, t.ok lo hi = true → t.toList.Pairwise (fun a b => a.1 < b.1)
  | .nil, _, _, _ => by simp [Tr.toList]
  | .node l k v r, lo, hi, h => by
    simp only [Tr.ok, Bool.and_eq_true, decide_eq_true_eq] at h
    obtain ⟨⟨⟨h1, h2⟩, h3⟩, h4⟩ := h
    simp only [Tr.toList]
    rw [List.pairwise_append]
    refine ⟨Tr.sorted h3, ?_, ?_⟩
    · rw [List.pairwise_cons]
      exact ⟨fun p hp => (Tr.bounds h4 p hp).1, Tr.sorted h4⟩
    · intro p hp q hq
      have a := (Tr.bounds h3 p hp).2
      rcases List.mem_cons.1 hq with rfl | hq
      · exact a
      · have b := (Tr.bounds h4 q hq).1
        omega

theorem mapGet_append {β : Type} (c : Int) : ∀ (a b : List (Int × β)), mapGet (Ty.beq (.int .i32)) (a ++ b) c = (match mapGet (Ty.beq (.int .i32)) a c with | some v => some v | none => mapGet (Ty.beq (.int .i32)) b c)
  | [], b => rfl
  | p :: a, b => by
    simp only [List.cons_append, mapGet]
    cases h : Ty.beq (.int .i32) c p.1
    · exact mapGet_append c a b
    · rfl

theorem mapGet_none {β : Type} {c : Int} : ∀ {a : List (Int × β)}, (∀ p ∈ a, p.1 ≠ c) → mapGet (Ty.beq (.int .i32)) a c = none
  | [], _ => rfl
  | p :: a, h => by
    have h1 : Ty.beq (.int .i32) c p.1 = false := by
      have := h p (by simp)
      show (c == p.1) = false
      exact beq_eq_false_iff_ne.2 (Ne.symm this)
    simp only [mapGet, h1, cond_false]
    exact mapGet_none fun q hq => h q (by simp [hq])

theorem Tr.get_ok {β : Type} (c : Int) : ∀ {t : Tr β} {lo hi : Int}, t.ok lo hi = true → mapGet (Ty.beq (.int .i32)) t.toList c = t.get c
  | .nil, _, _, _ => rfl
  | .node l k v r, lo, hi, h => by
    simp only [Tr.ok, Bool.and_eq_true, decide_eq_true_eq] at h
    obtain ⟨⟨⟨h1, h2⟩, h3⟩, h4⟩ := h
    simp only [Tr.toList, Tr.get]
    rw [mapGet_append]
    cases hk : c == k
    · have hne : c ≠ k := by simpa using hk
      have hkk : Ty.beq (.int .i32) c k = false := hk
      cases hd : decide (c < k)
      · have hd := of_decide_eq_false hd
        rw [mapGet_none (a := l.toList) fun p hp => by have := (Tr.bounds h3 p hp).2; omega]
        simp only [mapGet, hkk, cond_false]
        exact Tr.get_ok c h4
      · have hd := of_decide_eq_true hd
        have hr : mapGet (Ty.beq (.int .i32)) ((k, v) :: r.toList) c = none := by
          refine mapGet_none fun p hp => ?_
          rcases List.mem_cons.1 hp with rfl | hp
          · exact Ne.symm hne
          · have := (Tr.bounds h4 p hp).1; omega
        rw [hr, Tr.get_ok c h3]
        cases l.get c <;> rfl
    · have hkk : Ty.beq (.int .i32) c k = true := hk
      have hk : c = k := eq_of_beq hk
      rw [mapGet_none (a := l.toList) fun p hp => by have := (Tr.bounds h3 p hp).2; omega]
      simp only [mapGet, hkk, cond_true]

theorem mapPut_new {β : Type} {k : Int} {v : β} : ∀ {m : List (Int × β)}, (∀ p ∈ m, p.1 < k) → mapPut (Ty.beq (.int .i32)) m k v = m ++ [(k, v)]
  | [], _ => rfl
  | p :: m, h => by
    have h1 : Ty.beq (.int .i32) k p.1 = false := by
      have := h p (by simp)
      show (k == p.1) = false
      exact beq_eq_false_iff_ne.2 (by omega)
    simp only [mapPut, h1, cond_false, List.cons_append]
    rw [mapPut_new fun q hq => h q (by simp [hq])]

def listS : List (List Int) → Int → MI
  | [], _ => []
  | row :: l, at_ => (IntKind.wrap .i32 (at_ + nth row 0), nth row 1) :: listS l (IntKind.wrap .i32 (at_ + nth row 0))
def listP : List (List Int) → Int → MP
  | [], _ => []
  | row :: l, at_ => (IntKind.wrap .i32 (at_ + nth row 0), [nth row 1, nth row 2]) :: listP l (IntKind.wrap .i32 (at_ + nth row 0))

theorem buildS_ok : ∀ (rows : List (List Int)) (at_ : Int) (m : MI), (m ++ listS rows at_).Pairwise (fun a b => a.1 < b.1) → buildS rows at_ m = m ++ listS rows at_
  | [], _, m, _ => by simp [buildS, listS]
  | row :: l, at_, m, h => by
    simp only [buildS, listS] at h ⊢
    have hk : ∀ p ∈ m, p.1 < IntKind.wrap .i32 (at_ + nth row 0) := fun p hp => (List.pairwise_append.1 h).2.2 p hp _ (List.mem_cons_self ..)
    rw [mapPut_new hk]
    rw [buildS_ok l _ _ (by simpa using h)]
    simp

theorem buildP_ok : ∀ (rows : List (List Int)) (at_ : Int) (q : PSt), (q.p ++ listP rows at_).Pairwise (fun a b => a.1 < b.1) → (buildP rows at_ q).p = q.p ++ listP rows at_
  | [], _, q, _ => by simp [buildP, listP]
  | row :: l, at_, q, h => by
    simp only [buildP, listP] at h ⊢
    have hk : ∀ p ∈ q.p, p.1 < IntKind.wrap .i32 (at_ + nth row 0) := fun p hp => (List.pairwise_append.1 h).2.2 p hp _ (List.mem_cons_self ..)
    rw [mapPut_new hk]
    cases decide ((row.length : Int) > 3)
    · simp only [cond_false]; rw [buildP_ok l _ _ (by simpa using h)]; simp
    · simp only [cond_true]; rw [buildP_ok l _ _ (by simpa using h)]; simp

end Go.Proofs.Ytdkelhdlfeendaa.Ab
