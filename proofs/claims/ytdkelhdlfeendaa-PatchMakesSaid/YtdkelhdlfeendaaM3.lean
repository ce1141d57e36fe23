/- Kind, Split, Full: they end. -/
import Derived.Test.YtdkelhdlfeendaaM2
import Derived.Test.YtdkelhdlfeendaaQE
namespace Go.Proofs.Ytdkelhdlfeendaa.Ab
open Go Go.RowKit Go.Proofs
set_option linter.unusedSimpArgs false
set_option linter.unusedVariables false

theorem cond_some {α : Type} {c : Bool} {a b : Option α} (h1 : ∃ v, a = some v) (h2 : ∃ v, b = some v) : ∃ v, (bif c then a else b) = some v := by
  cases c
  · exact h2
  · exact h1
theorem cond_lit {α : Type} {c : Bool} {a b : Option α} (hc : c = true) (h1 : ∃ v, a = some v) : ∃ v, (bif c then a else b) = some v := by
  subst hc; exact h1

theorem F54_tot (c : Int) : ∃ v, F54 0 c = some v := by
  unfold F54
  repeat' first
    | exact ⟨_, rfl⟩
    | refine cond_lit (c := !((28 : Nat) == 0)) (by decide) ?_
    | refine cond_some ?_ ?_

def kindF (c : Int) : Int := (F54 0 c).getD 0
theorem F54_ok (n : Nat) (c : Int) : F54 n c = some (kindF c) := by
  obtain ⟨v, hv⟩ := F54_tot c
  show F54 0 c = some (kindF c)
  unfold kindF
  rw [hv]
  rfl

theorem F55_tot (c : Int) : ∃ v, (∀ n, F55 n c = some v) ∧ v.length ≤ 3 := by
  have key : ∃ v, F55 0 c = some v ∧ v.length ≤ 3 := by
    unfold F55
    rw [F54_ok]
    simp only
    have e1 : (!((588 : Nat) == 0)) = true := by decide
    have e2 : (!((28 : Nat) == 0)) = true := by decide
    simp only [e1, e2, cond_true]
    cases decide (kindF c < 4)
    · simp only [cond_false]
      cases decide (Int.tmod (IntKind.wrap .i32 (c - 44032)) 28 > 0)
      · exact ⟨_, rfl, by simp⟩
      · refine ⟨_, rfl, by simp⟩
    · exact ⟨_, rfl, by simp⟩
  obtain ⟨v, h1, h2⟩ := key
  refine ⟨v, fun n => ?_, h2⟩
  rw [← h1]
  unfold F55
  rw [F54_ok, F54_ok]

/-- Going on ends within so many steps. -/
def endsG (gS : Int → Option Int) (gP : Int → Option (List Int)) : Nat → Int → Bool
  | 0, _ => false
  | k + 1, c => match gS c with
    | some d => endsG gS gP k d
    | none => match gP c with
      | some two => endsG gS gP k (nth two 0) && endsG gS gP k (nth two 1)
      | none => true

theorem full_ok {T : TT} {gS : Int → Option Int} {gP : Int → Option (List Int)} (hS : ∀ c, mapGet (Ty.beq (.int .i32)) T.2.2.1 c = gS c) (hP : ∀ c, mapGet (Ty.beq (.int .i32)) T.2.1 c = gP c) : ∀ (k : Nat) (c : Int), k ≤ 10 → endsG gS gP k c = true →
    ∃ r, (∀ n, k ≤ n → F51 n (some T) c = some r) ∧ r.length ≤ 3 * 2 ^ k
  | 0, c, _, h => by cases h
  | k + 1, c, hk, h => by
    have hpow : 2 ^ (k + 1) = 2 * 2 ^ k := by rw [Nat.pow_succ]; omega
    have hp10 : 2 ^ k ≤ 2 ^ 10 := Nat.pow_le_pow_right (by omega) (by omega)
    have hp1 : 1 ≤ 2 ^ k := Nat.one_le_two_pow
    have step : ∀ r : List Int, (∀ n, k ≤ n → F51B (F51 n) n (some T) c = some r) → r.length ≤ 3 * 2 ^ (k + 1) → ∃ r, (∀ n, k + 1 ≤ n → F51 n (some T) c = some r) ∧ r.length ≤ 3 * 2 ^ (k + 1) := by
      intro r h1 h2
      refine ⟨r, fun n hn => ?_, h2⟩
      cases n with
      | zero => omega
      | succ n => exact h1 n (by omega)
    by_cases hkind : kindF c > 3
    · obtain ⟨v, hv, hvl⟩ := F55_tot c
      refine step v (fun n hn => ?_) (by omega)
      unfold F51B
      rw [F54_ok]
      simp only
      rw [decide_eq_true hkind, hv n]
      rfl
    · simp only [endsG] at h
      cases hs : gS c with
      | some d =>
        rw [hs] at h
        obtain ⟨r, hr, hl⟩ := full_ok hS hP k d (by omega) h
        refine step r (fun n hn => ?_) (by omega)
        unfold F51B
        rw [F54_ok]
        simp only
        rw [decide_eq_false hkind]
        simp only [cond_false, Option.isSome_some, cond_true, Option.getD_some]
        rw [hS, hs]
        simp only [Option.isSome_some, cond_true, Option.getD_some]
        rw [hr n hn]
      | none =>
        rw [hs] at h
        cases hp : gP c with
        | some two =>
          rw [hp] at h
          simp only [Bool.and_eq_true] at h
          obtain ⟨r1, hr1, hl1⟩ := full_ok hS hP k _ (by omega) h.1
          obtain ⟨r2, hr2, hl2⟩ := full_ok hS hP k _ (by omega) h.2
          refine step (r1 ++ r2) (fun n hn => ?_) (by rw [List.length_append]; omega)
          unfold F51B
          rw [F54_ok]
          simp only
          rw [decide_eq_false hkind]
          simp only [cond_false, Option.isSome_some, cond_true, Option.getD_some]
          rw [hS, hP, hs, hp]
          simp only [Option.isSome_some, Option.isSome_none, cond_true, cond_false, Option.getD_some]
          have e0 : two.getD 0 (Ty.dflt (.int .i32)) = nth two 0 := rfl
          have e1 : two.getD 1 (Ty.dflt (.int .i32)) = nth two 1 := rfl
          rw [e0, e1, hr1 n hn]
          simp only
          rw [hr2 n hn]
          simp only
          have hroom : (decide ((r1.length + r2.length) * 4 ≤ maxRoom) && decide (r1.length + r2.length ≤ maxRoom)) = true := by
            simp only [Bool.and_eq_true, decide_eq_true_eq]; unfold maxRoom; omega
          rw [hroom]
          rfl
        | none =>
          refine step [c] (fun n hn => ?_) (by simp; omega)
          unfold F51B
          rw [F54_ok]
          simp only
          rw [decide_eq_false hkind]
          simp only [cond_false, Option.isSome_some, cond_true, Option.getD_some]
          rw [hS, hP, hs, hp]
          rfl

end Go.Proofs.Ytdkelhdlfeendaa.Ab

/- Order, All: they end. -/
namespace Go.Proofs.Ytdkelhdlfeendaa.Ab
open Go Go.RowKit Go.Proofs
set_option linter.unusedSimpArgs false
set_option linter.unusedVariables false

theorem inb_of {i : Int} {n : Nat} (h0 : 0 ≤ i) (h1 : i < (n : Int)) : inB i n = true := by
  unfold inB; simp [h0, h1]

/-- All that is asked of the tables: each character's parts come to an end. -/
def FullOK (T : TT) : Prop := ∀ c, ∃ r, (∀ n, 6 ≤ n → F51 n (some T) c = some r) ∧ r.length ≤ 192

theorem order_in {T : TT} : ∀ (j : Nat) (l : List Int) (i : Int), j < l.length → l.length ≤ 1000000000 →
    ∃ out, out.length = l.length ∧ ∀ n r0 m, j < m → F52l1 n r0 m (some T) l i (j : Int) = r0 (some T) out (IntKind.wrap .i64 (i + 1))
  | 0, l, i, hj, hl => by
    refine ⟨l, rfl, fun n r0 m hm => ?_⟩
    cases m with
    | zero => omega
    | succ m => rfl
  | j + 1, l, i, hj, hl => by
    have hw : IntKind.wrap .i64 (((j + 1 : Nat) : Int) - 1) = (j : Int) := by rw [wrap64 (by omega) (by omega)]; omega
    have step : ∀ (out : List Int), out.length = l.length → (∀ n r0 m, j < m → F52l1F n r0 (F52l1 n r0 m) (some T) l i ((j + 1 : Nat) : Int) = r0 (some T) out (IntKind.wrap .i64 (i + 1))) →
        ∃ out, out.length = l.length ∧ ∀ n r0 m, j + 1 < m → F52l1 n r0 m (some T) l i ((j + 1 : Nat) : Int) = r0 (some T) out (IntKind.wrap .i64 (i + 1)) := by
      intro out h1 h2
      refine ⟨out, h1, fun n r0 m hm => ?_⟩
      cases m with
      | zero => omega
      | succ m => exact h2 n r0 m (by omega)
    have i1 : inB ((j + 1 : Nat) : Int) l.length = true := inb_of (by omega) (by omega)
    have i0 : inB (j : Int) l.length = true := inb_of (by omega) (by omega)
    have pos : decide (((j + 1 : Nat) : Int) > 0) = true := decide_eq_true (by omega)
    by_cases c1 : (Option.getD (mapGet (Ty.beq (.int .i32)) T.1 (l.getD (Int.toNat (j : Int)) (Ty.dflt (.int .i32)))) 0 == (0 : Int)) = true
    · refine step l rfl fun n r0 m hm => ?_
      unfold F52l1F
      rw [pos, hw, i0, i1]
      simp only [cond_true, Option.isSome_some, Option.getD_some]
      rw [c1]
      rfl
    · have c1 := Bool.eq_false_iff.2 c1
      by_cases c2 : (Option.getD (mapGet (Ty.beq (.int .i32)) T.1 (l.getD (Int.toNat ((j + 1 : Nat) : Int)) (Ty.dflt (.int .i32)))) 0 == (0 : Int)) = true
      · refine step l rfl fun n r0 m hm => ?_
        unfold F52l1F
        rw [pos, hw, i0, i1]
        simp only [cond_true, Option.isSome_some, Option.getD_some]
        rw [c1, c2]
        rfl
      · have c2 := Bool.eq_false_iff.2 c2
        by_cases c3 : (Option.getD (mapGet (Ty.beq (.int .i32)) T.1 (l.getD (Int.toNat (j : Int)) (Ty.dflt (.int .i32)))) (0 : Int)) ≤ (Option.getD (mapGet (Ty.beq (.int .i32)) T.1 (l.getD (Int.toNat ((j + 1 : Nat) : Int)) (Ty.dflt (.int .i32)))) (0 : Int))
        · refine step l rfl fun n r0 m hm => ?_
          unfold F52l1F
          rw [pos, hw, i0, i1]
          simp only [cond_true, Option.isSome_some, Option.getD_some]
          rw [c1, c2, decide_eq_true c3]
          rfl
        · obtain ⟨out, h1, h2⟩ := order_in (T := T) j ((l.set (Int.toNat (j : Int)) (l.getD (Int.toNat ((j + 1 : Nat) : Int)) (Ty.dflt (.int .i32)))).set (Int.toNat ((j + 1 : Nat) : Int)) (l.getD (Int.toNat (j : Int)) (Ty.dflt (.int .i32)))) i (by simp; omega) (by simpa using hl)
          refine step out (by simpa using h1) fun n r0 m hm => ?_
          unfold F52l1F
          rw [pos, hw, i0, i1]
          simp only [cond_true, Option.isSome_some, Option.getD_some]
          rw [c1, c2, decide_eq_false c3]
          simp only [cond_false, List.length_set]
          rw [i1]
          exact h2 n r0 m hm

theorem order_out {T : TT} : ∀ (k i : Nat) (l : List Int), i + k = l.length → l.length ≤ 1000000000 →
    ∃ out, out.length = l.length ∧ ∀ n m, l.length < n → k < m → F52l0 n m (some T) l (i : Int) = some out
  | 0, i, l, hk, hl => by
    refine ⟨l, rfl, fun n m hn hm => ?_⟩
    cases m with
    | zero => omega
    | succ m =>
      show F52l0F n (F52l0 n m) (some T) l (i : Int) = _
      unfold F52l0F
      rw [decide_eq_false (by omega)]
      rfl
  | k + 1, i, l, hk, hl => by
    obtain ⟨o1, a1, a2⟩ := order_in (T := T) i l (i : Int) (by omega) hl
    obtain ⟨o2, b1, b2⟩ := order_out (T := T) k (i + 1) o1 (by omega) (by omega)
    refine ⟨o2, by omega, fun n m hn hm => ?_⟩
    cases m with
    | zero => omega
    | succ m =>
      show F52l0F n (F52l0 n m) (some T) l (i : Int) = _
      unfold F52l0F
      rw [decide_eq_true (by omega : (i : Int) < (l.length : Int))]
      simp only [cond_true]
      rw [a2 n _ n (by omega), wrap64 (by omega) (by omega)]
      exact b2 n m (by omega) (by omega)

theorem order_ok {T : TT} (l : List Int) (hl : l.length ≤ 1000000000) : ∃ out, out.length = l.length ∧ ∀ n, l.length + 1 < n → F52 n (some T) l = some out := by
  have hroom : (decide ((([] : List Int).length + l.length) * 4 ≤ maxRoom) && decide (([] : List Int).length + l.length ≤ maxRoom)) = true := by
    simp only [Bool.and_eq_true, decide_eq_true_eq, List.length_nil]; unfold maxRoom; omega
  cases l with
  | nil =>
    refine ⟨[], rfl, fun n hn => ?_⟩
    cases n with
    | zero => omega
    | succ n => rfl
  | cons x l =>
    obtain ⟨out, h1, h2⟩ := order_out (T := T) l.length 1 (x :: l) (by simp; omega) hl
    refine ⟨out, h1, fun n hn => ?_⟩
    unfold F52
    rw [hroom]
    exact h2 n n (by omega) (by simp at hn; omega)

theorem all_loop {T : TT} (hT : FullOK T) : ∀ (suf pre acc : List Int), (pre ++ suf).length ≤ 1000000 → acc.length ≤ 192 * pre.length →
    ∃ out, out.length ≤ 192 * (pre ++ suf).length ∧ ∀ n m, 192 * (pre ++ suf).length + 10 < n → suf.length < m → F49l0 n m (some T) (pre ++ suf) acc (pre.length : Int) = some out
  | [], pre, acc, hl, ha => by
    simp only [List.append_nil] at hl ⊢
    obtain ⟨out, h1, h2⟩ := order_ok (T := T) acc (by omega)
    refine ⟨out, by omega, fun n m hn hm => ?_⟩
    cases m with
    | zero => omega
    | succ m =>
      show F49l0F n (F49l0 n m) (some T) pre acc (pre.length : Int) = _
      unfold F49l0F
      rw [decide_eq_false (by omega)]
      simp only [cond_false]
      rw [h2 n (by omega)]
  | c :: suf, pre, acc, hl, ha => by
    have e : pre ++ c :: suf = (pre ++ [c]) ++ suf := by simp
    have hlen : (pre ++ c :: suf).length = pre.length + suf.length + 1 := by simp; omega
    obtain ⟨r, hr, hrl⟩ := hT c
    obtain ⟨out, h1, h2⟩ := all_loop hT suf (pre ++ [c]) (acc ++ r) (by rw [← e]; exact hl) (by simp; omega)
    rw [← e] at h1 h2
    refine ⟨out, h1, fun n m hn hm => ?_⟩
    cases m with
    | zero => omega
    | succ m =>
      show F49l0F n (F49l0 n m) (some T) (pre ++ c :: suf) acc (pre.length : Int) = _
      unfold F49l0F
      rw [lt_pre', inb_pre, get_pre]
      simp only [cond_true]
      rw [hr n (by omega)]
      simp only
      have hroom : (decide ((acc.length + r.length) * 4 ≤ maxRoom) && decide (acc.length + r.length ≤ maxRoom)) = true := by
        simp only [Bool.and_eq_true, decide_eq_true_eq]; unfold maxRoom; omega
      rw [hroom, wrap64 (by omega) (by omega)]
      have := h2 n m hn (by simp at hm; omega)
      simp only [List.length_append, List.length_singleton, Int.natCast_add, Int.natCast_one] at this
      exact this

theorem all_ok {T : TT} (hT : FullOK T) (l : List Int) (hl : l.length ≤ 1000000) : ∃ out, out.length ≤ 192 * l.length ∧ ∀ n, 192 * l.length + 10 < n → F49 n (some T) l = some out := by
  obtain ⟨out, h1, h2⟩ := all_loop hT l [] [] (by simpa using hl) (by simp)
  exact ⟨out, by simpa using h1, fun n hn => h2 n n (by simpa using hn) (by omega)⟩

end Go.Proofs.Ytdkelhdlfeendaa.Ab

/- Join, Two, Compose, Form: they end. -/
namespace Go.Proofs.Ytdkelhdlfeendaa.Ab
open Go Go.RowKit Go.Proofs
set_option linter.unusedSimpArgs false
set_option linter.unusedVariables false

theorem wrap64' {i : Int} (h0 : -9000000000000000000 ≤ i) (h1 : i < 9000000000000000000) : IntKind.wrap .i64 i = i := by
  unfold IntKind.wrap
  simp [IntKind.bits, IntKind.signed]
  omega

theorem F53_ok (a b : Int) : ∃ v, ∀ n, F53 n a b = some v := by
  have key : ∃ v, F53 0 a b = some v := by
    unfold F53
    simp only [F54_ok]
    repeat' first
      | exact ⟨_, rfl⟩
      | refine cond_some ?_ ?_
  obtain ⟨v, hv⟩ := key
  refine ⟨v, fun n => ?_⟩
  rw [← hv]
  unfold F53
  simp only [F54_ok]

theorem F50_ok {T : TT} (a b : Int) : ∃ v, ∀ n, F50 n (some T) a b = some v := by
  obtain ⟨u, hu⟩ := F53_ok a b
  cases h : u.2
  · refine ⟨(Option.getD (mapGet (Ty.beq (.arr 2 (.int .i32))) T.2.2.2.1 ([a, b] : List Int)) 0, Option.isSome (mapGet (Ty.beq (.arr 2 (.int .i32))) T.2.2.2.1 ([a, b] : List Int))), fun n => ?_⟩
    unfold F50
    rw [hu n]
    simp only
    rw [h]
    rfl
  · refine ⟨(u.1, true), fun n => ?_⟩
    unfold F50
    rw [hu n]
    simp only
    rw [h]
    rfl

/-- What is put together so far, and where the last starter is. -/
def AtOK (out : List Int) (a : Int) : Prop := -1 ≤ a ∧ a < (out.length : Int)

section
variable {T : TT} {t1 : List Int}

theorem comp_back : ∀ (k : Nat) (out : List Int) (a i : Int), k ≤ out.length → 0 ≤ a → a < (out.length : Int) → out.length ≤ 1000000000 →
    ∃ a', AtOK out a' ∧ ∀ n r0 m, k < m → F48l3 n r0 m (some T) t1 out a i ((k : Int) - 1) = r0 (some T) t1 out a' (IntKind.wrap .i64 (i + 1))
  | 0, out, a, i, hk, h0, h1, hl => by
    refine ⟨a, ⟨by omega, h1⟩, fun n r0 m hm => ?_⟩
    cases m with
    | zero => omega
    | succ m => rfl
  | k + 1, out, a, i, hk, h0, h1, hl => by
    have hj : (((k + 1 : Nat) : Int) - 1) = (k : Int) := by omega
    by_cases hc : (Option.getD (mapGet (Ty.beq (.int .i32)) T.1 (out.getD (Int.toNat a) (Ty.dflt (.int .i32)))) (0 : Int)) > 0
    · obtain ⟨a', q1, q2⟩ := comp_back k out (k : Int) i (by omega) (by omega) (by omega) hl
      refine ⟨a', q1, fun n r0 m hm => ?_⟩
      cases m with
      | zero => omega
      | succ m =>
        rw [hj]
        show F48l3F n r0 (F48l3 n r0 m) (some T) t1 out a i (k : Int) = _
        unfold F48l3F
        rw [decide_eq_true (by omega : (k : Int) ≥ 0), inb_of h0 h1]
        simp only [cond_true, Option.isSome_some, Option.getD_some]
        rw [decide_eq_true hc, wrap64' (by omega) (by omega)]
        exact q2 n r0 m (by omega)
    · refine ⟨a, ⟨by omega, h1⟩, fun n r0 m hm => ?_⟩
      cases m with
      | zero => omega
      | succ m =>
        rw [hj]
        show F48l3F n r0 (F48l3 n r0 m) (some T) t1 out a i (k : Int) = _
        unfold F48l3F
        rw [decide_eq_true (by omega : (k : Int) ≥ 0), inb_of h0 h1]
        simp only [cond_true, Option.isSome_some, Option.getD_some]
        rw [decide_eq_false hc]
        rfl

theorem comp_put (out : List Int) (a i c k : Int) (ha : AtOK out a) (hl : out.length ≤ 1000000000) :
    ∃ out' a', AtOK out' a' ∧ out'.length ≤ out.length + 1 ∧ ∀ n r0, F48j1 n r0 (some T) t1 out a i c k = r0 (some T) t1 out' a' (IntKind.wrap .i64 (i + 1)) := by
  have hroom : (decide ((out.length + ([c] : List Int).length) * 4 ≤ maxRoom) && decide (out.length + ([c] : List Int).length ≤ maxRoom)) = true := by
    simp only [Bool.and_eq_true, decide_eq_true_eq, List.length_singleton]; unfold maxRoom; omega
  obtain ⟨h0, h1⟩ := ha
  cases hk : (k == 0)
  · refine ⟨out ++ [c], a, ⟨h0, by simp; omega⟩, by simp, fun n r0 => ?_⟩
    unfold F48j1
    rw [hroom, hk]
    rfl
  · refine ⟨out ++ [c], out.length, ⟨by omega, by simp; omega⟩, by simp, fun n r0 => ?_⟩
    unfold F48j1
    rw [hroom, hk]
    have : IntKind.wrap .i64 (((out ++ [c]).length : Int) - 1) = (out.length : Int) := by
      have e : (((out ++ [c]).length : Int) - 1) = (out.length : Int) := by simp
      rw [e, wrap64 (by omega) (by omega)]
    rw [this]
    rfl

theorem comp_join (out : List Int) (a i c k : Int) (b : Bool) (h0 : 0 ≤ a) (h1 : a < (out.length : Int)) (hl : out.length ≤ 1000000000) :
    ∃ out' a', AtOK out' a' ∧ out'.length ≤ out.length + 1 ∧ ∀ n r0, out.length < n → F48j2 n r0 (some T) t1 out a i c k b = r0 (some T) t1 out' a' (IntKind.wrap .i64 (i + 1)) := by
  obtain ⟨v, hv⟩ := F50_ok (T := T) (out.getD (Int.toNat a) (Ty.dflt (.int .i32))) c
  obtain ⟨o1, a1, p1, p2, p3⟩ := comp_put (T := T) (t1 := t1) out a i c k ⟨by omega, h1⟩ hl
  cases hv2 : v.2
  · refine ⟨o1, a1, p1, p2, fun n r0 hn => ?_⟩
    unfold F48j2
    rw [inb_of h0 h1, hv n]
    simp only [cond_true]
    rw [hv2]
    exact p3 n r0
  · cases b
    · obtain ⟨a', q1, q2⟩ := comp_back (T := T) (t1 := t1) out.length (out.set (Int.toNat a) v.1) a i (by simp) h0 (by simpa using h1) (by simpa using hl)
      refine ⟨out.set (Int.toNat a) v.1, a', q1, by simp, fun n r0 hn => ?_⟩
      unfold F48j2
      rw [inb_of h0 h1, hv n]
      simp only [cond_true]
      rw [hv2]
      simp only [cond_true, Bool.not_false, List.length_set]
      rw [wrap64' (by omega) (by omega)]
      exact q2 n r0 n hn
    · refine ⟨o1, a1, p1, p2, fun n r0 hn => ?_⟩
      unfold F48j2
      rw [inb_of h0 h1, hv n]
      simp only [cond_true]
      rw [hv2]
      exact p3 n r0

theorem comp_step (pre suf out : List Int) (c a : Int) (ha : AtOK out a) (hl : out.length ≤ 1000000000) (hp : pre.length ≤ 1000000000) :
    ∃ out' a', AtOK out' a' ∧ out'.length ≤ out.length + 1 ∧ ∀ n r0, out.length < n → F48l0F n r0 (some T) (pre ++ c :: suf) out a (pre.length : Int) = r0 (some T) (pre ++ c :: suf) out' a' ((pre.length : Int) + 1) := by
  obtain ⟨h0, h1⟩ := ha
  by_cases hneg : a ≥ 0
  · have hi : IntKind.wrap .i64 ((out.length : Int) - 1) = (out.length : Int) - 1 := wrap64' (by omega) (by omega)
    have hin : inB ((out.length : Int) - 1) out.length = true := inb_of (by omega) (by omega)
    have fin : ∀ b : Bool, (∀ n r0, F48l0F n r0 (some T) (pre ++ c :: suf) out a (pre.length : Int) = F48j2 n r0 (some T) (pre ++ c :: suf) out a (pre.length : Int) c (Option.getD (mapGet (Ty.beq (.int .i32)) T.1 c) 0) b) →
        ∃ out' a', AtOK out' a' ∧ out'.length ≤ out.length + 1 ∧ ∀ n r0, out.length < n → F48l0F n r0 (some T) (pre ++ c :: suf) out a (pre.length : Int) = r0 (some T) (pre ++ c :: suf) out' a' ((pre.length : Int) + 1) := by
      intro b hb
      obtain ⟨o, a', q1, q2, q3⟩ := comp_join (T := T) (t1 := pre ++ c :: suf) out a (pre.length : Int) c (Option.getD (mapGet (Ty.beq (.int .i32)) T.1 c) 0) b hneg h1 hl
      refine ⟨o, a', q1, q2, fun n r0 hn => ?_⟩
      rw [hb, q3 n r0 hn, wrap64 (by omega) (by omega)]
    by_cases c1 : (out.length : Int) - 1 > a
    · cases c2 : (Option.getD (mapGet (Ty.beq (.int .i32)) T.1 (out.getD (Int.toNat ((out.length : Int) - 1)) (Ty.dflt (.int .i32)))) 0 == (0 : Int))
      · refine fin (decide ((Option.getD (mapGet (Ty.beq (.int .i32)) T.1 (out.getD (Int.toNat ((out.length : Int) - 1)) (Ty.dflt (.int .i32)))) (0 : Int)) ≥ (Option.getD (mapGet (Ty.beq (.int .i32)) T.1 c) (0 : Int)))) fun n r0 => ?_
        unfold F48l0F
        rw [lt_pre', inb_pre, get_pre, decide_eq_true hneg, hi, hin]
        simp only [cond_true, Option.isSome_some, Option.getD_some]
        rw [decide_eq_true c1, c2]
        rfl
      · refine fin true fun n r0 => ?_
        unfold F48l0F
        rw [lt_pre', inb_pre, get_pre, decide_eq_true hneg, hi, hin]
        simp only [cond_true, Option.isSome_some, Option.getD_some]
        rw [decide_eq_true c1, c2]
        rfl
    · refine fin false fun n r0 => ?_
      unfold F48l0F
      rw [lt_pre', inb_pre, get_pre, decide_eq_true hneg, hi, hin]
      simp only [cond_true, Option.isSome_some, Option.getD_some]
      rw [decide_eq_false c1]
      rfl
  · obtain ⟨o, a', q1, q2, q3⟩ := comp_put (T := T) (t1 := pre ++ c :: suf) out a (pre.length : Int) c (Option.getD (mapGet (Ty.beq (.int .i32)) T.1 c) 0) ⟨h0, h1⟩ hl
    refine ⟨o, a', q1, q2, fun n r0 hn => ?_⟩
    unfold F48l0F
    rw [lt_pre', inb_pre, get_pre, decide_eq_false hneg]
    simp only [cond_true, cond_false, Option.isSome_some, Option.getD_some]
    rw [q3 n r0, wrap64 (by omega) (by omega)]

theorem comp_loop : ∀ (suf pre out : List Int) (a : Int), AtOK out a → out.length ≤ pre.length → (pre ++ suf).length ≤ 900000000 →
    ∃ r, r.length ≤ (pre ++ suf).length ∧ ∀ n m, (pre ++ suf).length + 1 < n → suf.length < m → F48l0 n m (some T) (pre ++ suf) out a (pre.length : Int) = some r
  | [], pre, out, a, ha, ho, hl => by
    simp only [List.append_nil] at hl ⊢
    refine ⟨out, ho, fun n m hn hm => ?_⟩
    cases m with
    | zero => omega
    | succ m =>
      show F48l0F n (F48l0 n m) (some T) pre out a (pre.length : Int) = _
      unfold F48l0F
      rw [decide_eq_false (by omega)]
      rfl
  | c :: suf, pre, out, a, ha, ho, hl => by
    have e : pre ++ c :: suf = (pre ++ [c]) ++ suf := by simp
    have hlen : (pre ++ c :: suf).length = pre.length + suf.length + 1 := by simp; omega
    obtain ⟨o, a', p1, p2, p3⟩ := comp_step (T := T) pre suf out c a ha (by omega) (by omega)
    obtain ⟨r, q1, q2⟩ := comp_loop suf (pre ++ [c]) o a' p1 (by simp; omega) (by rw [← e]; exact hl)
    rw [← e] at q1 q2
    refine ⟨r, q1, fun n m hn hm => ?_⟩
    cases m with
    | zero => omega
    | succ m =>
      show F48l0F n (F48l0 n m) (some T) (pre ++ c :: suf) out a (pre.length : Int) = _
      rw [p3 n _ (by omega)]
      have := q2 n m hn (by simp at hm; omega)
      simp only [List.length_append, List.length_singleton, Int.natCast_add, Int.natCast_one] at this
      exact this

theorem compose_ok (l : List Int) (hl : l.length ≤ 900000000) : ∃ r, r.length ≤ l.length ∧ ∀ n, l.length + 1 < n → F48 n (some T) l = some r := by
  obtain ⟨r, h1, h2⟩ := comp_loop (T := T) l [] [] (-1) ⟨by omega, by simp⟩ (by simp) (by simpa using hl)
  exact ⟨r, by simpa using h1, fun n hn => h2 n n (by simpa using hn) (by omega)⟩

theorem form_ok (hT : FullOK T) (l : List Int) (hl : l.length ≤ 1000000) : ∃ r, r.length ≤ 192 * l.length ∧ ∀ n, 192 * l.length + 10 < n → F44 n (some T) l = some r := by
  obtain ⟨x, h1, h2⟩ := all_ok hT l hl
  obtain ⟨r, h3, h4⟩ := compose_ok (T := T) x (by omega)
  refine ⟨r, by omega, fun n hn => ?_⟩
  unfold F44
  rw [h2 n hn]
  simp only
  rw [h4 n (by omega)]
end

end Go.Proofs.Ytdkelhdlfeendaa.Ab

/- ref02.All ends. -/
namespace Go.Proofs.Ytdkelhdlfeendaa.Ab
open Go Go.RowKit Go.Proofs
set_option linter.unusedSimpArgs false
set_option linter.unusedVariables false

theorem F45_ok (x : Int) : ∃ v, ∀ n, F45 n x = some v := by
  have key : ∃ v, F45 0 x = some v := by
    unfold F45
    repeat' first
      | exact ⟨_, rfl⟩
      | refine cond_some ?_ ?_
  obtain ⟨v, hv⟩ := key
  exact ⟨v, fun n => by rw [← hv]; rfl⟩

theorem F46_ok (x y : Int) : ∃ v, ∀ n, F46 n x y = some v := by
  have key : ∃ v, F46 0 x y = some v := by
    unfold F46
    repeat' first
      | exact ⟨_, rfl⟩
      | refine cond_some ?_ ?_
  obtain ⟨v, hv⟩ := key
  exact ⟨v, fun n => by rw [← hv]; rfl⟩

theorem how_step (l : List Int) (t3 : Int) (i : Nat) (h1 : 1 ≤ i) (h2 : i < l.length) (hl : l.length ≤ 1000000000) :
    (∀ n r0, F41l0F n r0 l t3 (i : Int) = some 0) ∨ (∀ n r0, F41l0F n r0 l t3 (i : Int) = r0 l t3 ((i + 1 : Nat) : Int)) := by
  have hin : inB (i : Int) l.length = true := inb_of (by omega) (by omega)
  have hlt : decide ((i : Int) < (l.length : Int)) = true := decide_eq_true (by omega)
  have hw : IntKind.wrap .i64 ((i : Int) + 1) = ((i + 1 : Nat) : Int) := by rw [wrap64 (by omega) (by omega)]; omega
  have i0 : inB 0 l.length = true := inb_of (by omega) (by omega)
  have i1 : inB 1 l.length = true := inb_of (by omega) (by omega)
  obtain ⟨v, hv⟩ := F46_ok (l.getD (Int.toNat 0) (Ty.dflt (.int .u8))) (l.getD (Int.toNat 1) (Ty.dflt (.int .u8)))
  cases c1 : ((i : Int) == 1)
  · cases c2 : decide (l.getD (Int.toNat (i : Int)) (Ty.dflt (.int .u8)) < (128 : Int))
    · cases c3 : decide (l.getD (Int.toNat (i : Int)) (Ty.dflt (.int .u8)) > (191 : Int))
      · refine .inr fun n r0 => ?_
        unfold F41l0F
        rw [hlt, c1, hin, hw]
        simp only [cond_true, cond_false]
        rw [c2, c3]
        rfl
      · refine .inl fun n r0 => ?_
        unfold F41l0F
        rw [hlt, c1, hin]
        simp only [cond_true, cond_false]
        rw [c2, c3]
        rfl
    · refine .inl fun n r0 => ?_
      unfold F41l0F
      rw [hlt, c1, hin]
      simp only [cond_true, cond_false]
      rw [c2]
      rfl
  · cases c0 : v
    · refine .inl fun n r0 => ?_
      unfold F41l0F
      rw [hlt, c1, i0, i1, hv n, c0]
      rfl
    · cases c2 : decide (l.getD (Int.toNat (i : Int)) (Ty.dflt (.int .u8)) < (128 : Int))
      · cases c3 : decide (l.getD (Int.toNat (i : Int)) (Ty.dflt (.int .u8)) > (191 : Int))
        · refine .inr fun n r0 => ?_
          unfold F41l0F
          rw [hlt, c1, i0, i1, hv n, c0, hin, hw]
          simp only [cond_true, cond_false, Bool.not_true]
          rw [c2, c3]
          rfl
        · refine .inl fun n r0 => ?_
          unfold F41l0F
          rw [hlt, c1, i0, i1, hv n, c0, hin]
          simp only [cond_true, cond_false, Bool.not_true]
          rw [c2, c3]
          rfl
      · refine .inl fun n r0 => ?_
        unfold F41l0F
        rw [hlt, c1, i0, i1, hv n, c0, hin]
        simp only [cond_true, cond_false, Bool.not_true]
        rw [c2]
        rfl

theorem how_loop (l : List Int) (t3 : Int) (hl : l.length ≤ 1000000000) : ∀ (k i : Nat), 1 ≤ i → i + k = l.length → ∃ v, ∀ n m, k < m → F41l0 n m l t3 (i : Int) = some v
  | 0, i, h1, h2 => by
    refine ⟨bif t3 == (l.length : Int) then 2 else 1, fun n m hm => ?_⟩
    cases m with
    | zero => omega
    | succ m =>
      show F41l0F n (F41l0 n m) l t3 (i : Int) = _
      unfold F41l0F
      rw [decide_eq_false (by omega)]
      cases t3 == (l.length : Int) <;> rfl
  | k + 1, i, h1, h2 => by
    rcases how_step l t3 i h1 (by omega) hl with h | h
    · refine ⟨0, fun n m hm => ?_⟩
      cases m with
      | zero => omega
      | succ m => exact h n _
    · obtain ⟨v, hv⟩ := how_loop l t3 hl k (i + 1) (by omega) (by omega)
      refine ⟨v, fun n m hm => ?_⟩
      cases m with
      | zero => omega
      | succ m => exact (h n _).trans (hv n m (by omega))

theorem F41_ok (l : List Int) : ∃ v, ∀ n, 10 ≤ n → F41 n l = some v := by
  cases c1 : ((l.length : Int) == 0)
  · cases c2 : decide ((l.length : Int) > 4)
    · have c1 : (l.length : Int) ≠ 0 := by simpa using c1
      have c2' := of_decide_eq_false c2
      obtain ⟨u, hu⟩ := F45_ok (l.getD (Int.toNat 0) (Ty.dflt (.int .u8)))
      obtain ⟨v, hv⟩ := how_loop l u (by omega) (l.length - 1) 1 (by omega) (by omega)
      have c1' : ((l.length : Int) == 0) = false := beq_eq_false_iff_ne.2 c1
      have i0 : inB 0 l.length = true := inb_of (by omega) (by omega)
      cases c3 : decide (u < (l.length : Int))
      · refine ⟨v, fun n hn => ?_⟩
        unfold F41
        rw [c1', c2, i0, hu n]
        simp only [cond_true, cond_false]
        rw [c3]
        exact hv n n (by omega)
      · refine ⟨0, fun n hn => ?_⟩
        unfold F41
        rw [c1', c2, i0, hu n]
        simp only [cond_true, cond_false]
        rw [c3]
        rfl
    · refine ⟨0, fun n hn => ?_⟩
      unfold F41
      rw [c1, c2]
      rfl
  · refine ⟨0, fun n hn => ?_⟩
    unfold F41
    rw [c1]
    rfl

theorem of_loop (l : List Int) (hl : l.length ≤ 1000000000) : ∀ (k i : Nat) (t3 : Int), i + k = l.length → ∃ v, ∀ n m, k < m → F42l1 n m l t3 (i : Int) = some v
  | 0, i, t3, h => by
    refine ⟨t3, fun n m hm => ?_⟩
    cases m with
    | zero => omega
    | succ m =>
      show F42l1F n (F42l1 n m) l t3 (i : Int) = _
      unfold F42l1F
      rw [decide_eq_false (by omega)]
      rfl
  | k + 1, i, t3, h => by
    obtain ⟨v, hv⟩ := of_loop l hl k (i + 1) (IntKind.wrap .i32 ((IntKind.wrap .i32 ((IntKind.wrap .i32 (t3 * 64)) + (IntKind.wrap .i32 (l.getD (Int.toNat (i : Int)) (Ty.dflt (.int .u8)))))) - 128)) (by omega)
    refine ⟨v, fun n m hm => ?_⟩
    cases m with
    | zero => omega
    | succ m =>
      show F42l1F n (F42l1 n m) l t3 (i : Int) = _
      unfold F42l1F
      rw [decide_eq_true (by omega : (i : Int) < (l.length : Int)), inb_of (by omega) (by omega), wrap64 (by omega) (by omega)]
      exact hv n m (by omega)

theorem F42_ok (l : List Int) (h0 : 0 < l.length) (hl : l.length ≤ 1000000000) : ∃ v, ∀ n, l.length < n → F42 n l = some v := by
  have i0 : inB 0 l.length = true := inb_of (by omega) (by omega)
  have j0 : ∀ t3, ∃ v, ∀ n, l.length < n → F42j0 n l t3 = some v := fun t3 => by
    obtain ⟨v, hv⟩ := of_loop l hl (l.length - 1) 1 t3 (by omega)
    exact ⟨v, fun n hn => hv n n (by omega)⟩
  cases c2 : ((l.length : Int) == 2)
  · cases c3 : ((l.length : Int) == 3)
    · cases c4 : ((l.length : Int) == 4)
      · obtain ⟨v, hv⟩ := j0 (IntKind.wrap .i32 (l.getD (Int.toNat 0) (Ty.dflt (.int .u8))))
        exact ⟨v, fun n hn => by unfold F42; rw [i0, c2, c3, c4]; exact hv n hn⟩
      · obtain ⟨v, hv⟩ := j0 (IntKind.wrap .i32 ((IntKind.wrap .i32 (l.getD (Int.toNat 0) (Ty.dflt (.int .u8)))) - 240))
        exact ⟨v, fun n hn => by unfold F42; rw [i0, c2, c3, c4]; exact hv n hn⟩
    · obtain ⟨v, hv⟩ := j0 (IntKind.wrap .i32 ((IntKind.wrap .i32 (l.getD (Int.toNat 0) (Ty.dflt (.int .u8)))) - 224))
      exact ⟨v, fun n hn => by unfold F42; rw [i0, c2, c3]; exact hv n hn⟩
  · obtain ⟨v, hv⟩ := j0 (IntKind.wrap .i32 ((IntKind.wrap .i32 (l.getD (Int.toNat 0) (Ty.dflt (.int .u8)))) - 192))
    exact ⟨v, fun n hn => by unfold F42; rw [i0, c2]; exact hv n hn⟩

end Go.Proofs.Ytdkelhdlfeendaa.Ab

/- ref02.First, All end. -/
namespace Go.Proofs.Ytdkelhdlfeendaa.Ab
open Go Go.RowKit Go.Proofs
set_option linter.unusedSimpArgs false
set_option linter.unusedVariables false

theorem cutB_of {l h : Int} {n : Nat} (h0 : 0 ≤ l) (h1 : l ≤ h) (h2 : h ≤ (n : Int)) : (cutB l h n && true) = true := by
  unfold cutB; simp [h0, h1, h2]

def FirstOK (l : List Int) (v : Int × Int × Bool) : Prop := v.2.2 = true → 1 ≤ v.2.1 ∧ v.2.1 ≤ (l.length : Int)

theorem first_end (l : List Int) (hl : l.length ≤ 1000000000) (i : Nat) (hi : i ≤ l.length) : ∃ v, (∀ n, l.length + 20 < n → F37j0 n l (i : Int) = some v) ∧ FirstOK l v := by
  by_cases hlt : i < l.length
  · have hw : IntKind.wrap .i64 ((i : Int) + 1) = (i : Int) + 1 := wrap64 (by omega) (by omega)
    have hcut := cutB_of (l := 0) (h := (i : Int) + 1) (n := l.length) (by omega) (by omega) (by omega)
    have hlen : ((l.drop (Int.toNat 0)).take (Int.toNat ((i : Int) + 1) - Int.toNat 0)).length = i + 1 := by
      simp; omega
    obtain ⟨u, hu⟩ := F41_ok ((l.drop (Int.toNat 0)).take (Int.toNat ((i : Int) + 1) - Int.toNat 0))
    obtain ⟨v, hv⟩ := F42_ok ((l.drop (Int.toNat 0)).take (Int.toNat ((i : Int) + 1) - Int.toNat 0)) (by omega) (by omega)
    cases c : (u == 2)
    · refine ⟨(0, (i : Int), false), fun n hn => ?_, fun h => by cases h⟩
      unfold F37j0
      rw [decide_eq_true (by omega : (i : Int) < (l.length : Int)), hw, hcut]
      simp only [cond_true]
      rw [hu n (by omega)]
      simp only
      rw [c]
      rfl
    · refine ⟨(v, (i : Int) + 1, true), fun n hn => ?_, fun _ => ⟨by show (1 : Int) ≤ (i : Int) + 1; omega, by show (i : Int) + 1 ≤ _; omega⟩⟩
      unfold F37j0
      rw [decide_eq_true (by omega : (i : Int) < (l.length : Int)), hw, hcut]
      simp only [cond_true]
      rw [hu n (by omega)]
      simp only
      rw [c]
      simp only [cond_true]
      rw [hv n (by omega)]
  · refine ⟨(0, (i : Int), false), fun n hn => ?_, fun h => by cases h⟩
    unfold F37j0
    rw [decide_eq_false (by omega)]
    rfl

theorem first_loop (l : List Int) (hl : l.length ≤ 1000000000) : ∀ (k i : Nat), i + k = l.length → ∃ v, (∀ n m, l.length + 20 < n → k < m → F37l1 n m l (i : Int) = some v) ∧ FirstOK l v
  | 0, i, h => by
    obtain ⟨v, h1, h2⟩ := first_end l hl i (by omega)
    refine ⟨v, fun n m hn hm => ?_, h2⟩
    cases m with
    | zero => omega
    | succ m =>
      show F37l1F n (F37l1 n m) l (i : Int) = _
      unfold F37l1F
      rw [decide_eq_false (by omega)]
      exact h1 n hn
  | k + 1, i, h => by
    have hw : IntKind.wrap .i64 ((i : Int) + 1) = (i : Int) + 1 := wrap64 (by omega) (by omega)
    have hcut := cutB_of (l := 0) (h := (i : Int) + 1) (n := l.length) (by omega) (by omega) (by omega)
    obtain ⟨u, hu⟩ := F41_ok ((l.drop (Int.toNat 0)).take (Int.toNat ((i : Int) + 1) - Int.toNat 0))
    cases c : (u == 1)
    · obtain ⟨v, h1, h2⟩ := first_end l hl i (by omega)
      refine ⟨v, fun n m hn hm => ?_, h2⟩
      cases m with
      | zero => omega
      | succ m =>
        show F37l1F n (F37l1 n m) l (i : Int) = _
        unfold F37l1F
        rw [decide_eq_true (by omega : (i : Int) < (l.length : Int)), hw, hcut]
        simp only [cond_true]
        rw [hu n (by omega)]
        simp only
        rw [c]
        exact h1 n hn
    · obtain ⟨v, h1, h2⟩ := first_loop l hl k (i + 1) (by omega)
      refine ⟨v, fun n m hn hm => ?_, h2⟩
      cases m with
      | zero => omega
      | succ m =>
        show F37l1F n (F37l1 n m) l (i : Int) = _
        unfold F37l1F
        rw [decide_eq_true (by omega : (i : Int) < (l.length : Int)), hw, hcut]
        simp only [cond_true]
        rw [hu n (by omega)]
        simp only
        rw [c]
        have := h1 n m hn (by omega)
        rw [show (((i + 1 : Nat) : Int)) = (i : Int) + 1 by omega] at this
        exact this

theorem F37_ok (l : List Int) (hl : l.length ≤ 1000000000) : ∃ v, (∀ n, l.length + 20 < n → F37 n l = some v) ∧ FirstOK l v := by
  obtain ⟨v, h1, h2⟩ := first_loop l hl l.length 0 (by omega)
  exact ⟨v, fun n hn => h1 n n hn (by omega), h2⟩

theorem all02_loop (l : List Int) (hl : l.length ≤ 1000000000) : ∀ (K k i : Nat) (acc : List Int), k ≤ K → i + k = l.length → acc.length ≤ i →
    ∃ v, (∀ n m, l.length + 20 < n → k < m → F34l0 n m l acc (i : Int) = some v) ∧ v.1.length ≤ l.length
  | K, 0, i, acc, hK, h, ha => by
    refine ⟨(acc, (i : Int), true), fun n m hn hm => ?_, by show acc.length ≤ _; omega⟩
    cases m with
    | zero => omega
    | succ m =>
      show F34l0F n (F34l0 n m) l acc (i : Int) = _
      unfold F34l0F
      rw [decide_eq_false (by omega)]
      rfl
  | K + 1, k + 1, i, acc, hK, h, ha => by
    have hcut := cutB_of (l := (i : Int)) (h := (l.length : Int)) (n := l.length) (by omega) (by omega) (by omega)
    have hlen : ((l.drop (Int.toNat (i : Int))).take (Int.toNat (l.length : Int) - Int.toNat (i : Int))).length = k + 1 := by
      simp; omega
    obtain ⟨u, hu, hf⟩ := F37_ok ((l.drop (Int.toNat (i : Int))).take (Int.toNat (l.length : Int) - Int.toNat (i : Int))) (by omega)
    cases c : u.2.2
    · refine ⟨(([] : List Int), IntKind.wrap .i64 ((i : Int) + u.2.1), false), fun n m hn hm => ?_, by simp⟩
      cases m with
      | zero => omega
      | succ m =>
        show F34l0F n (F34l0 n m) l acc (i : Int) = _
        unfold F34l0F
        rw [decide_eq_true (by omega : (i : Int) < (l.length : Int)), hcut]
        simp only [cond_true]
        rw [hu n (by omega)]
        simp only
        rw [c]
        rfl
    · obtain ⟨f1, f2⟩ := hf c
      rw [hlen] at f2
      obtain ⟨j, hj⟩ := Int.eq_ofNat_of_zero_le (show 0 ≤ u.2.1 by omega)
      have hroom : (decide ((acc.length + ([u.1] : List Int).length) * 4 ≤ maxRoom) && decide (acc.length + ([u.1] : List Int).length ≤ maxRoom)) = true := by
        simp only [Bool.and_eq_true, decide_eq_true_eq, List.length_singleton]; unfold maxRoom; omega
      obtain ⟨v, h1, h2⟩ := all02_loop l hl K (k + 1 - j) (i + j) (acc ++ [u.1]) (by omega) (by omega) (by simp; omega)
      refine ⟨v, fun n m hn hm => ?_, h2⟩
      cases m with
      | zero => omega
      | succ m =>
        show F34l0F n (F34l0 n m) l acc (i : Int) = _
        unfold F34l0F
        rw [decide_eq_true (by omega : (i : Int) < (l.length : Int)), hcut]
        simp only [cond_true]
        rw [hu n (by omega)]
        simp only
        rw [c, hroom, hj, wrap64 (by omega) (by omega)]
        have := h1 n m hn (by omega)
        rw [show (((i + j : Nat) : Int)) = (i : Int) + (j : Int) by omega] at this
        exact this
  | 0, k + 1, _, _, hK, _, _ => by omega

theorem F34_ok (l : List Int) (hl : l.length ≤ 1000000000) : ∃ v, (∀ n, l.length + 20 < n → F34 n l = some v) ∧ v.1.length ≤ l.length := by
  obtain ⟨v, h1, h2⟩ := all02_loop l hl l.length l.length 0 [] (by omega) (by omega) (by simp)
  exact ⟨v, fun n hn => h1 n n hn (by omega), h2⟩

end Go.Proofs.Ytdkelhdlfeendaa.Ab

/- ref02.Text, ref09.Text end. -/
namespace Go.Proofs.Ytdkelhdlfeendaa.Ab
open Go Go.RowKit Go.Proofs
set_option linter.unusedSimpArgs false
set_option linter.unusedVariables false

theorem F38_ok (x : Int) : ∃ v, ∀ n, F38 n x = some v := by
  have key : ∃ v, F38 0 x = some v := by
    unfold F38
    repeat' first
      | exact ⟨_, rfl⟩
      | refine cond_some ?_ ?_
  obtain ⟨v, hv⟩ := key
  exact ⟨v, fun n => by rw [← hv]; rfl⟩

theorem F47_ok (x : Int) : ∃ v : List Int, (∀ n, F47 n x = some v) ∧ v.length ≤ 4 := by
  obtain ⟨b, hb⟩ := F38_ok x
  have e1 : (!((64 : Nat) == 0)) = true := by decide
  have e2 : (!((4096 : Nat) == 0)) = true := by decide
  have e3 : (!((262144 : Nat) == 0)) = true := by decide
  have key : ∃ v : List Int, F47 0 x = some v ∧ v.length ≤ 4 := by
    unfold F47
    rw [hb 0]
    simp only [e1, e2, e3, cond_true]
    cases b
    · exact ⟨_, rfl, by simp⟩
    · cases decide (x < 128)
      · cases decide (x < 2048)
        · cases decide (x < 65536)
          · exact ⟨_, rfl, by simp⟩
          · exact ⟨_, rfl, by simp⟩
        · exact ⟨_, rfl, by simp⟩
      · exact ⟨_, rfl, by simp⟩
  obtain ⟨v, h1, h2⟩ := key
  refine ⟨v, fun n => ?_, h2⟩
  rw [← h1]
  unfold F47
  rw [hb n, hb 0]

theorem text_loop : ∀ (suf pre acc : List Int), (pre ++ suf).length ≤ 900000000 → acc.length ≤ 4 * pre.length →
    ∃ out, out.length ≤ 4 * (pre ++ suf).length ∧ ∀ n m, suf.length < m → F43l0 n m (pre ++ suf) acc (pre.length : Int) = some out
  | [], pre, acc, hl, ha => by
    simp only [List.append_nil] at hl ⊢
    refine ⟨acc, ha, fun n m hm => ?_⟩
    cases m with
    | zero => omega
    | succ m =>
      show F43l0F n (F43l0 n m) pre acc (pre.length : Int) = _
      unfold F43l0F
      rw [decide_eq_false (by omega)]
      rfl
  | c :: suf, pre, acc, hl, ha => by
    have e : pre ++ c :: suf = (pre ++ [c]) ++ suf := by simp
    have hlen : (pre ++ c :: suf).length = pre.length + suf.length + 1 := by simp; omega
    obtain ⟨r, hr, hrl⟩ := F47_ok c
    obtain ⟨out, h1, h2⟩ := text_loop suf (pre ++ [c]) (acc ++ r) (by rw [← e]; exact hl) (by simp; omega)
    rw [← e] at h1 h2
    refine ⟨out, h1, fun n m hm => ?_⟩
    cases m with
    | zero => omega
    | succ m =>
      show F43l0F n (F43l0 n m) (pre ++ c :: suf) acc (pre.length : Int) = _
      unfold F43l0F
      rw [lt_pre', inb_pre, get_pre]
      simp only [cond_true]
      rw [hr n]
      simp only
      have hroom : (decide ((acc.length + r.length) * 1 ≤ maxRoom) && decide (acc.length + r.length ≤ maxRoom)) = true := by
        simp only [Bool.and_eq_true, decide_eq_true_eq]; unfold maxRoom; omega
      rw [hroom, wrap64 (by omega) (by omega)]
      have := h2 n m (by simp at hm; omega)
      simp only [List.length_append, List.length_singleton, Int.natCast_add, Int.natCast_one] at this
      exact this

theorem F43_ok (l : List Int) (hl : l.length ≤ 900000000) : ∃ out, ∀ n, l.length < n → F43 n l = some out := by
  obtain ⟨out, _, h2⟩ := text_loop l [] [] (by simpa using hl) (by simp)
  exact ⟨out, fun n hn => h2 n n hn⟩

/-- A text's form. -/
theorem F40_ok {T : TT} (hT : FullOK T) (s : List UInt8) (hl : s.length ≤ 100000) : ∃ out, ∀ n, 192 * s.length + 100 < n → F40 n (some T) s = some out := by
  have hb : (bytesOf s).length = s.length := by simp [bytesOf]
  obtain ⟨u, hu, hul⟩ := F34_ok (bytesOf s) (by omega)
  obtain ⟨f, hf1, hf⟩ := form_ok hT u.1 (by omega)
  obtain ⟨t, ht⟩ := F43_ok f (by omega)
  cases c : u.2.2
  · refine ⟨s, fun n hn => ?_⟩
    unfold F40
    rw [hu n (by omega)]
    simp only
    rw [c]
    rfl
  · refine ⟨strOf t, fun n hn => ?_⟩
    unfold F40
    rw [hu n (by omega)]
    simp only
    rw [c]
    simp only [Bool.not_true, cond_false]
    rw [hf n (by omega)]
    simp only
    rw [ht n (by omega)]

end Go.Proofs.Ytdkelhdlfeendaa.Ab

/- The tables are such that each character's parts come to an end. -/
namespace Go.Proofs.Ytdkelhdlfeendaa.Ab
open Go Go.RowKit Go.Proofs

theorem ends_G : ∀ (k : Nat) (c : Int), ends k c = endsG treeS.get treeP.get k c
  | 0, _ => rfl
  | k + 1, c => by
    unfold ends endsG
    cases treeS.get c with
    | some d => exact ends_G k d
    | none =>
      cases treeP.get c with
      | some two => simp only; rw [ends_G k, ends_G k]
      | none => rfl

theorem full_tabs : FullOK tabs := fun c => full_ok single_get pair_get 6 c (by omega) (by rw [← ends_G]; exact ends_all c)

end Go.Proofs.Ytdkelhdlfeendaa.Ab
