/- The texts of chapter 5, read: a fold over the bytes. -/
import Derived.Test.YtdkelhdlfeendaaGA
namespace Go.Proofs.Ytdkelhdlfeendaa.Ab
open Go Go.RowKit Go.Proofs
set_option linter.unusedSimpArgs false
set_option linter.unusedVariables false

def dig (x : Int) : Int := (F33 0 x).getD 0

theorem F33_ok (n : Nat) (x : Int) : F33 n x = some (dig x) := by
  unfold dig F33
  cases decide (x ≥ 48) <;> cases decide (x ≤ 57) <;> cases decide (x ≥ 97) <;> cases decide (x ≤ 102) <;> rfl

/-- Rows, a row, a number, whether one is under way. -/
structure RSt where
  a : List (List Int)
  r : List Int
  v : Int
  b : Bool

def st3 (a : List (List Int)) (r : List Int) (v : Int) (b : Bool) (x : Int) : RSt :=
  bif (x == 44 || x == 10) && !(r.isEmpty) then ⟨a ++ [r], [], v, b⟩ else ⟨a, r, v, b⟩
def st2 (a : List (List Int)) (r : List Int) (x : Int) : RSt := bif x == 33 then st3 a (r ++ [-1]) 0 false x else st3 a r 0 false x
def st1 (s : RSt) (x : Int) : RSt :=
  bif decide (dig x ≥ 0) then ⟨s.a, s.r, IntKind.wrap .i32 (IntKind.wrap .i32 (16 * s.v) + dig x), true⟩
  else bif s.b then st2 s.a (s.r ++ [s.v]) x else st2 s.a s.r x

def goR : List UInt8 → RSt → RSt
  | [], s => st1 s 10
  | c :: l, s => goR l (st1 s (c.toNat : Int))

/-- The numbers of the rows are no more than the bytes. -/
def Small (s : RSt) (m : Nat) : Prop := s.a.length ≤ m ∧ s.r.length ≤ 2 * m

theorem st3_small {a : List (List Int)} {r : List Int} {v : Int} {b : Bool} {x : Int} {m : Nat} (h1 : a.length ≤ m) (h2 : r.length ≤ 2 * m + 2) : Small (st3 a r v b x) (m + 1) := by
  unfold st3
  cases (x == 44 || x == 10) && !(r.isEmpty)
  · exact ⟨by simp; omega, by simp; omega⟩
  · exact ⟨by simp; omega, by simp⟩

theorem st1_small {s : RSt} {x : Int} {m : Nat} (h : Small s m) : Small (st1 s x) (m + 1) := by
  obtain ⟨h1, h2⟩ := h
  unfold st1
  cases decide (dig x ≥ 0)
  · cases s.b
    · unfold st2
      cases x == 33
      · exact st3_small h1 (by omega)
      · exact st3_small h1 (by simp; omega)
    · unfold st2
      cases x == 33
      · exact st3_small h1 (by simp; omega)
      · exact st3_small h1 (by simp; omega)
  · exact ⟨by simp; omega, by simp; omega⟩

section
variable {n : Nat} {rF : List UInt8 → List (List Int) → List Int → Int → Bool → Int → Option (List (List Int))} {t0 : List UInt8} {t7 : Int}

theorem j3_ok {t3 : List (List Int)} {t4 : List Int} {t5 : Int} {t6 : Bool} {x : Int} (h : t3.length ≤ 100000) :
    F22j3 n rF t0 t3 t4 t5 t6 t7 x = rF t0 (st3 t3 t4 t5 t6 x).a (st3 t3 t4 t5 t6 x).r (st3 t3 t4 t5 t6 x).v (st3 t3 t4 t5 t6 x).b (IntKind.wrap .i64 (t7 + 1)) := by
  have hroom : (decide ((t3.length + ([t4] : List (List Int)).length) * 24 ≤ maxRoom) && decide (t3.length + ([t4] : List (List Int)).length ≤ maxRoom)) = true := by
    simp only [Bool.and_eq_true, decide_eq_true_eq, List.length_singleton]; unfold maxRoom; omega
  have hl : decide ((t4.length : Int) > 0) = !(t4.isEmpty) := by cases t4 <;> simp
  unfold F22j3 st3
  rw [hroom, hl]
  cases x == 44 <;> cases x == 10 <;> cases t4.isEmpty <;> rfl

theorem j2_ok {t3 : List (List Int)} {t4 : List Int} {x : Int} (h : t3.length ≤ 100000) (h4 : t4.length ≤ 300000) :
    F22j2 n rF t0 t3 t4 t7 x = rF t0 (st2 t3 t4 x).a (st2 t3 t4 x).r (st2 t3 t4 x).v (st2 t3 t4 x).b (IntKind.wrap .i64 (t7 + 1)) := by
  have hroom : (decide ((t4.length + ([(-1)] : List Int).length) * 4 ≤ maxRoom) && decide (t4.length + ([(-1)] : List Int).length ≤ maxRoom)) = true := by
    simp only [Bool.and_eq_true, decide_eq_true_eq, List.length_singleton]; unfold maxRoom; omega
  unfold F22j2 st2
  rw [hroom]
  cases x == 33
  · exact j3_ok (n := n) h
  · exact j3_ok (n := n) h

theorem j1_ok {s : RSt} {x : Int} (h : s.a.length ≤ 100000) (h4 : s.r.length ≤ 200000) :
    F22j1 n rF t0 s.a s.r s.v s.b t7 x = rF t0 (st1 s x).a (st1 s x).r (st1 s x).v (st1 s x).b (IntKind.wrap .i64 (t7 + 1)) := by
  have hroom : (decide ((s.r.length + ([s.v] : List Int).length) * 4 ≤ maxRoom) && decide (s.r.length + ([s.v] : List Int).length ≤ maxRoom)) = true := by
    simp only [Bool.and_eq_true, decide_eq_true_eq, List.length_singleton]; unfold maxRoom; omega
  unfold F22j1 st1
  rw [F33_ok]
  simp only
  rw [hroom]
  cases decide (dig x ≥ 0)
  · cases s.b
    · exact j2_ok (n := n) h (by omega)
    · exact j2_ok (n := n) h (by simp; omega)
  · rfl
end

theorem wrap64 {i : Int} (h0 : 0 ≤ i) (h1 : i < 9000000000000000000) : IntKind.wrap .i64 i = i := by
  unfold IntKind.wrap
  simp [IntKind.bits, IntKind.signed]
  omega

theorem l0_ok {n : Nat} : ∀ (suf pre : List UInt8) (m : Nat) (s : RSt), suf.length + 1 < m → (pre ++ suf).length ≤ 90000 → Small s pre.length →
    F22l0 n m (pre ++ suf) s.a s.r s.v s.b (pre.length : Int) = some (goR suf s).a
  | [], pre, m + 2, s, hm, hl, hs => by
    obtain ⟨s1, s2⟩ := hs
    simp only [List.append_nil] at hl ⊢
    show F22l0F n (F22l0 n (m + 1)) pre s.a s.r s.v s.b (pre.length : Int) = _
    unfold F22l0F
    rw [decide_eq_true (Int.le_refl _), decide_eq_false (Int.lt_irrefl _)]
    simp only [cond_true, cond_false]
    rw [j1_ok (by omega) (by omega), wrap64 (by omega) (by omega)]
    show F22l0F n (F22l0 n m) pre _ _ _ _ _ = _
    unfold F22l0F
    rw [decide_eq_false (by omega)]
    rfl
  | c :: suf, pre, m + 1, s, hm, hl, hs => by
    obtain ⟨s1, s2⟩ := hs
    have e : pre ++ c :: suf = (pre ++ [c]) ++ suf := by simp
    have hlen : (pre ++ c :: suf).length = pre.length + suf.length + 1 := by simp; omega
    show F22l0F n (F22l0 n m) (pre ++ c :: suf) s.a s.r s.v s.b (pre.length : Int) = _
    unfold F22l0F
    rw [decide_eq_true (by omega : (pre.length : Int) ≤ ((pre ++ c :: suf).length : Int)), decide_eq_true (by omega : (pre.length : Int) < ((pre ++ c :: suf).length : Int))]
    have hin : inB (pre.length : Int) (pre ++ c :: suf).length = true := by
      unfold inB; simp; omega
    rw [hin]
    simp only [cond_true]
    have hg : (pre ++ c :: suf).getD (Int.toNat (pre.length : Int)) 0 = c := by simp
    rw [hg, j1_ok (by omega) (by omega), wrap64 (by omega) (by omega)]
    have ih := l0_ok (n := n) suf (pre ++ [c]) m (st1 s (c.toNat : Int)) (by simp at hm; omega) (by rw [← e]; exact hl) (by rw [List.length_append]; exact st1_small ⟨s1, s2⟩)
    rw [← e] at ih
    simp only [List.length_append, List.length_singleton, Int.natCast_add, Int.natCast_one] at ih
    exact ih
  | [], _, 0, _, hm, _, _ => by omega
  | [], _, 1, _, hm, _, _ => by simp at hm
  | _ :: _, _, 0, _, hm, _, _ => by omega

theorem F22_ok {n : Nat} (s : List UInt8) (hn : s.length + 1 < n) (hl : s.length ≤ 90000) : F22 n s = some (goR s ⟨[], [], 0, false⟩).a :=
  l0_ok (n := n) s [] n ⟨[], [], 0, false⟩ hn hl ⟨by simp, by simp⟩

end Go.Proofs.Ytdkelhdlfeendaa.Ab
