/- The scalars of bytes: what utf8.All and the document's All tell, in plain Lean. -/
import Derived.Test.YtaeamjhgfhcjdaaDoorP1
namespace Go.Proofs.YtaeamjhgfhcjdaaDoor.Ab.Pt
open Go Go.RowKit Go.Proofs.YtaeamjhgfhcjdaaDoor.Ab
set_option maxRecDepth 100000
set_option linter.unusedVariables false
set_option linter.unusedSimpArgs false

/-- Of how many bytes a scalar is that begins so. -/
def lng (x : Int) : Int := if x < 128 then 1 else if 194 ≤ x ∧ x ≤ 223 then 2 else if 224 ≤ x ∧ x ≤ 239 then 3 else if 240 ≤ x ∧ x ≤ 244 then 4 else 0

def sec (f x : Int) : Bool :=
  if f = 224 then decide (160 ≤ x) && decide (x ≤ 191) else if f = 237 then decide (128 ≤ x) && decide (x ≤ 159) else
  if f = 240 then decide (144 ≤ x) && decide (x ≤ 191) else if f = 244 then decide (128 ≤ x) && decide (x ≤ 143) else decide (128 ≤ x) && decide (x ≤ 191)

def lead (x : Int) : Int := if lng x = 2 then x - 192 else if lng x = 3 then x - 224 else if lng x = 4 then x - 240 else x

/-- May a byte stand behind k bytes that begin with f? -/
def cont (k : Nat) (f x : Int) : Bool := (if k = 1 then sec f x else true) && (decide (128 ≤ x) && decide (x ≤ 191))

/-- The scalars of bytes: k bytes are begun, the first is f, they tell c so far. -/
def U : List Int → Nat → List Int → Nat → Int → Int → List Int × Nat × Bool
  | [], pos, acc, k, f, c => if k = 0 then (acc, pos, true) else ([], pos, false)
  | x :: r, pos, acc, k, f, c =>
    if k = 0 then
      (if lng x = 1 then U r (pos + 1) (acc ++ [x]) 0 f c
      else if lng x = 0 then ([], pos, false)
      else U r (pos + 1) acc 1 x (lead x))
    else if cont k f x then
      (if (k : Int) + 1 < lng f then U r (pos + 1) acc (k + 1) f (c * 64 + (x - 128))
      else U r (pos + 1) (acc ++ [c * 64 + (x - 128)]) 0 f (c * 64 + (x - 128)))
    else ([], pos, false)

/-- A byte. -/
def isB (x : Int) : Prop := 0 ≤ x ∧ x ≤ 255

theorem byteTab {p : Int → Bool} (h : (List.range 256).all (fun k => p (k : Int)) = true) {x : Int} (hx : isB x) : p x = true := by
  have := List.all_eq_true.1 h x.toNat (List.mem_range.2 (by have := hx.1; have := hx.2; omega))
  rwa [show ((x.toNat : Nat) : Int) = x by have := hx.1; omega] at this

theorem F66_eq (n : Nat) {x : Int} (hx : isB x) : F66 n x = some (lng x) := by
  have h : (F66 0 x == some (lng x)) = true := byteTab (p := fun x => F66 0 x == some (lng x)) (by decide +kernel) hx
  exact eq_of_beq h

theorem F73_eq (n : Nat) {x : Int} (hx : isB x) : F73 n x = some (lng x) := by
  have h : (F73 0 x == some (lng x)) = true := byteTab (p := fun x => F73 0 x == some (lng x)) (by decide +kernel) hx
  exact eq_of_beq h

theorem F74_eq (n : Nat) (f x : Int) : F74 n f x = some (sec f x) := by
  unfold F74 sec
  by_cases h1 : f = 224
  · subst h1; by_cases h : (160 : Int) ≤ x <;> simp [h]
  have e1 : (f == 224) = false := by simpa using h1
  by_cases h2 : f = 237
  · subst h2; by_cases h : (128 : Int) ≤ x <;> simp [h]
  have e2 : (f == 237) = false := by simpa using h2
  by_cases h3 : f = 240
  · subst h3; by_cases h : (144 : Int) ≤ x <;> simp [h]
  have e3 : (f == 240) = false := by simpa using h3
  by_cases h4 : f = 244
  · subst h4; by_cases h : (128 : Int) ≤ x <;> simp [h]
  have e4 : (f == 244) = false := by simpa using h4
  by_cases h : (128 : Int) ≤ x <;> simp [h, h1, h2, h3, h4, e1, e2, e3, e4]

theorem F67_eq (n : Nat) {f x : Int} (hf : isB f) (hl : 2 ≤ lng f) (hx : isB x) : F67 n f x = some (sec f x) := by
  have h : (decide (lng f < 2) || (List.range 256).all fun k => F67 0 f (k : Int) == some (sec f (k : Int))) = true :=
    byteTab (p := fun f => decide (lng f < 2) || (List.range 256).all fun k => F67 0 f (k : Int) == some (sec f (k : Int))) (by decide +kernel) hf
  rw [decide_eq_false (by omega), Bool.false_or] at h
  have := byteTab (p := fun x => F67 0 f x == some (sec f x)) h hx
  exact eq_of_beq this

theorem and63 {x : Int} (hx : isB x) : (IntKind.wrap .u8 (BitVec.ofInt (IntKind.bits .u8) x &&& BitVec.ofInt (IntKind.bits .u8) 63).toNat) = x % 64 := by
  have h := byteTab (p := fun x => (IntKind.wrap .u8 (BitVec.ofInt (IntKind.bits .u8) x &&& BitVec.ofInt (IntKind.bits .u8) 63).toNat) == x % 64) (by decide +kernel) hx
  exact eq_of_beq h

theorem not63 {x : Int} (hx : isB x) : ((IntKind.wrap .u8 (BitVec.ofInt (IntKind.bits .u8) x &&& ~~~ (BitVec.ofInt (IntKind.bits .u8) 63)).toNat) != 128) = !(decide (128 ≤ x) && decide (x ≤ 191)) := by
  have h := byteTab (p := fun x => ((IntKind.wrap .u8 (BitVec.ofInt (IntKind.bits .u8) x &&& ~~~ (BitVec.ofInt (IntKind.bits .u8) 63)).toNat) != 128) == !(decide (128 ≤ x) && decide (x ≤ 191))) (by decide +kernel) hx
  exact eq_of_beq h

theorem lead_eq {x : Int} (hx : isB x) (hl : 2 ≤ lng x) : (IntKind.wrap .i32 (BitVec.ofInt (IntKind.bits .i32) (IntKind.wrap .i32 x) &&& BitVec.ofInt (IntKind.bits .i32) (Int.fdiv 127 (2 ^ (min (Int.toNat (lng x)) (IntKind.bits .i32))))).toNat) = lead x := by
  have h := byteTab (p := fun x => decide (lng x < 2) || ((IntKind.wrap .i32 (BitVec.ofInt (IntKind.bits .i32) (IntKind.wrap .i32 x) &&& BitVec.ofInt (IntKind.bits .i32) (Int.fdiv 127 (2 ^ (min (Int.toNat (lng x)) (IntKind.bits .i32))))).toNat) == lead x)) (by decide +kernel) hx
  rw [decide_eq_false (by omega), Bool.false_or] at h
  exact eq_of_beq h

theorem lead_range {x : Int} (hx : isB x) (hl : 2 ≤ lng x) : 0 ≤ lead x ∧ lead x ≤ 31 := by
  have h := byteTab (p := fun x => decide (lng x < 2) || (decide (0 ≤ lead x) && decide (lead x ≤ 31))) (by decide +kernel) hx
  rw [decide_eq_false (by omega), Bool.false_or] at h
  simpa using h

theorem lng_le (x : Int) : lng x ≤ 4 := by unfold lng; (repeat' split) <;> omega
theorem lng_nonneg (x : Int) : 0 ≤ lng x := by unfold lng; (repeat' split) <;> omega

theorem or32 {c x : Int} (h0 : 0 ≤ c) (h1 : c ≤ 33554431) (hx : 128 ≤ x ∧ x ≤ 191) :
    (IntKind.wrap .i32 (BitVec.ofInt (IntKind.bits .i32) (IntKind.wrap .i32 (c * 2 ^ (min (Int.toNat (6)) (IntKind.bits .i32)))) ||| BitVec.ofInt (IntKind.bits .i32) (IntKind.wrap .i32 ((IntKind.wrap .u8 (BitVec.ofInt (IntKind.bits .u8) x &&& BitVec.ofInt (IntKind.bits .u8) 63).toNat)))).toNat) = c * 64 + (x - 128) := by
  rw [and63 ⟨by omega, by omega⟩]
  have e6 : (2 : Int) ^ (min (Int.toNat 6) (IntKind.bits .i32)) = 64 := by decide
  rw [e6, wrap32 (x := c * 64) (by omega) (by omega), wrap32 (x := x % 64) (by omega) (by omega)]
  have ea : BitVec.ofInt (IntKind.bits .i32) (c * 64) = BitVec.ofNat 32 (c.toNat * 64) := by
    rw [show c * 64 = ((c.toNat * 64 : Nat) : Int) by omega]; rfl
  have eb : BitVec.ofInt (IntKind.bits .i32) (x % 64) = BitVec.ofNat 32 (x % 64).toNat := by
    conv => lhs; rw [show x % 64 = (((x % 64).toNat : Nat) : Int) by omega]
    rfl
  rw [ea, eb]
  have et : (BitVec.ofNat 32 (c.toNat * 64) ||| BitVec.ofNat 32 (x % 64).toNat).toNat = c.toNat * 64 + (x % 64).toNat := by
    rw [BitVec.toNat_or, BitVec.toNat_ofNat, BitVec.toNat_ofNat, Nat.mod_eq_of_lt (by omega), Nat.mod_eq_of_lt (by omega)]
    have := Nat.two_pow_add_eq_or_of_lt (i := 6) (b := (x % 64).toNat) (by omega) c.toNat
    rw [show (2 : Nat) ^ 6 = 64 by decide] at this
    rw [Nat.mul_comm, this]
  refine (congrArg (fun k : Nat => IntKind.wrap .i32 (k : Int)) et).trans ?_
  show IntKind.wrap .i32 ((c.toNat * 64 + (x % 64).toNat : Nat) : Int) = _
  rw [wrap32 (by omega) (by omega)]
  omega

/-! ### utf8.Push -/

abbrev Rd := Int × (Int × (Int × (Int × Unit)))

theorem push_one (n : Nat) {f c d x : Int} (hx : isB x) (hl : lng x = 1) : F54 n (f, c, 0, d, ()) x = some ((f, c, 0, d, ()), x, 2) := by
  unfold F54
  rw [F66_eq n hx, hl]
  have := hx.1; have := hx.2
  simp [wrap32 (x := x) (by omega) (by omega)]

theorem push_none (n : Nat) {f c d x : Int} (hx : isB x) (hl : lng x = 0) : F54 n (f, c, 0, d, ()) x = some ((f, c, 0, d, ()), 0, 3) := by
  unfold F54
  rw [F66_eq n hx, hl]
  simp

theorem push_begin (n : Nat) {f c d x : Int} (hx : isB x) (hl : 2 ≤ lng x) : F54 n (f, c, 0, d, ()) x = some ((x, lead x, 1, lng x, ()), 0, 1) := by
  have h1 : (lng x == 1) = false := by simp; omega
  have h0 : (lng x == 0) = false := by simp; omega
  have hp : decide (0 ≤ lng x) = true := by simp; omega
  unfold F54
  rw [F66_eq n hx]
  simp only [h1, h0, hp, cond_false, cond_true, lead_eq hx hl, beq_self_eq_true]

theorem push_cont (n : Nat) {f c x : Int} {k : Nat} (hf : isB f) (hk1 : 1 ≤ k) (hk : (k : Int) < lng f) (hc0 : 0 ≤ c) (hc1 : c ≤ 33554431) (hx : isB x) (h : cont k f x = true) :
    F54 n (f, c, (k : Int), lng f, ()) x = some (if (k : Int) + 1 < lng f then ((f, c * 64 + (x - 128), (k : Int) + 1, lng f, ()), 0, 1) else ((f, c * 64 + (x - 128), 0, lng f, ()), c * 64 + (x - 128), 2)) := by
  have e0 : ((k : Int) == 0) = false := by simp; omega
  have hle := lng_le f
  simp only [cont, Bool.and_eq_true] at h
  obtain ⟨hs, h1, h2⟩ := h
  have h1' := of_decide_eq_true h1
  have h2' := of_decide_eq_true h2
  have hj : F54j0 n x f c (k : Int) (lng f) = some (if (k : Int) + 1 < lng f then ((f, c * 64 + (x - 128), (k : Int) + 1, lng f, ()), 0, 1) else ((f, c * 64 + (x - 128), 0, lng f, ()), c * 64 + (x - 128), 2)) := by
    unfold F54j0
    rw [or32 hc0 hc1 ⟨h1', h2'⟩, wrap64 (by omega) (by omega)]
    by_cases hh : (k : Int) + 1 < lng f <;> simp [hh]
  unfold F54
  simp only [e0, cond_false, not63 hx, h1, h2, hj, Bool.and_self, Bool.not_true]
  by_cases hk1' : k = 1
  · subst hk1'
    rw [if_pos rfl] at hs
    rw [F67_eq n hf (by omega) hx, hs]
    simp
  · have e1 : ((k : Int) == 1) = false := by simp; omega
    simp only [e1, cond_false]

theorem push_wrong (n : Nat) {f c x : Int} {k : Nat} (hf : isB f) (hk1 : 1 ≤ k) (hk : (k : Int) < lng f) (hx : isB x) (h : cont k f x = false) :
    F54 n (f, c, (k : Int), lng f, ()) x = some ((f, c, (k : Int), lng f, ()), 0, 3) := by
  have e0 : ((k : Int) == 0) = false := by simp; omega
  unfold F54
  simp only [e0, cond_false, not63 hx]
  simp only [cont] at h
  by_cases hk1' : k = 1
  · subst hk1'
    rw [if_pos rfl] at h
    rw [F67_eq n hf (by omega) hx]
    cases hs : sec f x with
    | false => simp
    | true =>
      rw [hs, Bool.true_and] at h
      simp [h]
  · have e1 : ((k : Int) == 1) = false := by simp; omega
    rw [if_neg hk1', Bool.true_and] at h
    simp [e1, h]

end Go.Proofs.YtaeamjhgfhcjdaaDoor.Ab.Pt

/- utf8.All and the document's All tell the same. -/
namespace Go.Proofs.YtaeamjhgfhcjdaaDoor.Ab.Pt
open Go Go.RowKit Go.Proofs.YtaeamjhgfhcjdaaDoor.Ab
set_option maxRecDepth 100000
set_option linter.unusedVariables false
set_option linter.unusedSimpArgs false

theorem room4 (m : Nat) (h : m ≤ 200000) : (decide (m * 4 ≤ maxRoom) && decide (m ≤ maxRoom)) = true := by
  rw [Bool.and_eq_true, decide_eq_true_eq, decide_eq_true_eq]
  unfold maxRoom
  omega

theorem inB_pre' (pre : List Int) (x : Int) (l : List Int) : inB (pre.length : Int) (pre ++ x :: l).length = true := inB_pre pre x l
theorem getD_preI (pre : List Int) (x d : Int) (l : List Int) : (pre ++ x :: l).getD (Int.toNat (pre.length : Int)) d = x := getD_pre pre x d l

/-- What is begun. -/
def Begun (k : Nat) (f c d : Int) : Prop := k = 0 ∨ (isB f ∧ (k : Int) < lng f ∧ d = lng f ∧ 0 ≤ c ∧ ((k = 1 ∧ c ≤ 31) ∨ (k = 2 ∧ c ≤ 2047) ∨ (k = 3 ∧ c ≤ 131071)))

def outU (u : List Int × Nat × Bool) : List Int × Int × Bool := (u.1, (u.2.1 : Int), u.2.2)

theorem F35_loop (n : Nat) : ∀ (l pre acc : List Int) (k : Nat) (f c d : Int) (m : Nat), (∀ x ∈ l, isB x) → (pre ++ l).length ≤ 100000 → acc.length ≤ pre.length → Begun k f c d → l.length + 1 ≤ m →
    F35l0 n m (pre ++ l) acc (pre ++ l) ((pre ++ l).length : Int) (pre.length : Int) f c (k : Int) d = some (outU (U l pre.length acc k f c))
  | [], pre, acc, k, f, c, d, m, _, hl, ha, hb, hm => by
    obtain ⟨m, rfl⟩ : ∃ j, m = j + 1 := ⟨m - 1, by simp at hm; omega⟩
    unfold F35l0 F35l0F
    by_cases hk : k = 0
    · subst hk
      simp [F55, U, outU]
    · have h0 : 0 < k := by omega
      simp [F55, U, outU, hk, h0]
  | x :: l, pre, acc, k, f, c, d, m, hB, hl, ha, hb, hm => by
    obtain ⟨m, rfl⟩ : ∃ j, m = j + 1 := ⟨m - 1, by simp at hm; omega⟩
    have hx := hB x (by simp)
    have hB' : ∀ y ∈ l, isB y := fun y hy => hB y (by simp [hy])
    have hlt : decide ((pre.length : Int) < ((pre ++ x :: l).length : Int)) = true := by simp; omega
    have hlen : pre.length + 1 ≤ 100000 := by simp at hl; omega
    have hw : IntKind.wrap .i64 ((pre.length : Int) + 1) = ((pre ++ [x]).length : Int) := by rw [wrap64 (by omega) (by omega)]; simp
    have hr : ∀ y : Int, (decide (((acc).length + (([y] : List Int)).length) * 4 ≤ maxRoom) && decide ((acc).length + (([y] : List Int)).length ≤ maxRoom)) = true := fun y => room4 _ (by simp; omega)
    have ih := fun acc' k' f' c' d' h1 h2 => F35_loop n l (pre ++ [x]) acc' k' f' c' d' m hB' (by simpa using hl) h1 h2 (by simp at hm; omega)
    simp only [List.append_assoc, List.singleton_append] at ih
    have hl1 : (pre ++ [x]).length = pre.length + 1 := by simp
    unfold F35l0 F35l0F
    rw [hlt, inB_pre', getD_preI]
    simp only [cond_true, hr, hw]
    by_cases hk : k = 0
    · subst hk
      rw [show ((0 : Nat) : Int) = 0 from rfl]
      by_cases h1 : lng x = 1
      · rw [push_one n hx h1]
        simp only [beq_self_eq_true, cond_true, U, if_true, h1]
        have := ih (acc ++ [x]) 0 f c d (by simp; omega) (.inl rfl)
        rw [hl1] at this
        rw [hl1]
        exact this
      · by_cases h0 : lng x = 0
        · rw [push_none n hx h0]
          simp [U, h0, outU]
        · have h2 : 2 ≤ lng x := by have := lng_nonneg x; omega
          rw [push_begin n hx h2]
          have hlr := lead_range hx h2
          have e12 : ((1 : Int) == 2) = false := rfl
          have e13 : ((1 : Int) == 3) = false := rfl
          simp only [e12, e13, cond_false, U, if_true, h1, h0, if_false]
          have := ih acc 1 x (lead x) (lng x) (by simp; omega) (.inr ⟨hx, by omega, rfl, hlr.1, .inl ⟨rfl, hlr.2⟩⟩)
          rw [hl1] at this
          rw [hl1]
          exact this
    · obtain ⟨hf, hkl, rfl, hc0, hc⟩ := hb.resolve_left hk
      have hcb : c ≤ 33554431 := by omega
      cases hcont : cont k f x with
      | false =>
        rw [push_wrong n hf (by omega) hkl hx hcont]
        simp [U, hk, hcont, outU]
      | true =>
        rw [push_cont n hf (by omega) hkl hc0 hcb hx hcont]
        have hxr : 128 ≤ x ∧ x ≤ 191 := by
          simp only [cont, Bool.and_eq_true, decide_eq_true_eq] at hcont
          exact hcont.2
        have hll := lng_le f
        by_cases hh : (k : Int) + 1 < lng f
        · simp only [if_pos hh, U, hk, if_false, hcont, if_true]
          have e12 : ((1 : Int) == 2) = false := rfl
          have e13 : ((1 : Int) == 3) = false := rfl
          simp only [e12, e13, cond_false]
          have := ih acc (k + 1) f (c * 64 + (x - 128)) (lng f) (by simp; omega) (.inr ⟨hf, by omega, rfl, by omega, by omega⟩)
          rw [hl1] at this
          rw [hl1]
          exact this
        · simp only [if_neg hh, U, hk, if_false, hcont, if_true]
          simp only [beq_self_eq_true, cond_true]
          have := ih (acc ++ [c * 64 + (x - 128)]) 0 f (c * 64 + (x - 128)) (lng f) (by simp; omega) (.inl rfl)
          rw [hl1] at this
          rw [hl1]
          exact this

/-- What utf8.All tells. -/
theorem F35_eq (n : Nat) (l : List Int) (hB : ∀ x ∈ l, isB x) (hl : l.length ≤ 100000) (hn : l.length + 1 ≤ n) : F35 n l = some (outU (U l 0 [] 0 0 0)) := by
  unfold F35
  have h53 : F53 n = some (0, 0, 0, 0, ()) := rfl
  rw [h53]
  have hr := room4 l.length (by omega)
  have hg : (((((decide ((0 : Int) ≤ 0) && decide ((0 : Int) ≤ ((l).length : Int))) && decide ((Int.toNat ((l).length : Int)) * 4 ≤ maxRoom)) && decide ((Int.toNat ((l).length : Int)) ≤ maxRoom)) && true) && true) = true := by
    rw [Bool.and_eq_true] at hr
    simp only [Int.toNat_natCast, hr.1, hr.2]
    simp
  refine (congrArg (fun b : Bool => bif b then F35l0 n n l (List.replicate (Int.toNat 0) (0 : Int)) l ((l).length : Int) 0 0 0 0 0 else none) hg).trans ?_
  exact F35_loop n l [] [] 0 0 0 0 n hB (by simpa using hl) (Nat.le_refl _) (.inl rfl) hn

/-! ### The document's -/

/-- Do all bytes behind the first k stand rightly? -/
def okC (f : Int) : Nat → List Int → Bool
  | _, [] => true
  | k, x :: r => cont k f x && okC f (k + 1) r

theorem okC_append (f : Int) : ∀ (l m : List Int) (k : Nat), okC f k (l ++ m) = (okC f k l && okC f (k + l.length) m)
  | [], m, k => by simp [okC]
  | x :: l, m, k => by
    simp only [List.cons_append, okC, okC_append f l m (k + 1), List.length_cons, Bool.and_assoc]
    rw [show k + 1 + l.length = k + (l.length + 1) by omega]

theorem F58_loop (n : Nat) (f : Int) (L : Int) : ∀ (l pre : List Int) (m : Nat), (f :: pre ++ l).length ≤ 4 → l.length + 1 ≤ m →
    F58l0 n m (f :: pre ++ l) L ((f :: pre).length : Int) = some (if okC f (pre.length + 1) l then (if L = ((f :: pre ++ l).length : Int) then 2 else 1) else 0)
  | [], pre, m, hl, hm => by
    obtain ⟨m, rfl⟩ : ∃ j, m = j + 1 := ⟨m - 1, by simp at hm; omega⟩
    unfold F58l0 F58l0F
    by_cases h : L = ((pre.length : Int) + 1)
    · simp [okC, h]
    · have : (L == (pre.length : Int) + 1) = false := by simpa using h
      simp [okC, h, this]
  | x :: l, pre, m, hl, hm => by
    obtain ⟨m, rfl⟩ : ∃ j, m = j + 1 := ⟨m - 1, by simp at hm; omega⟩
    have hlt : decide (((f :: pre).length : Int) < ((f :: pre ++ x :: l).length : Int)) = true := by simp; omega
    have ib := inB_pre' (f :: pre) x l
    have gx := getD_preI (f :: pre) x (Ty.dflt (.int .u8)) l
    have hw : IntKind.wrap .i64 (((f :: pre).length : Int) + 1) = ((f :: (pre ++ [x])).length : Int) := by
      simp at hl
      rw [wrap64 (by simp; omega) (by simp; omega)]; simp
    have ih := F58_loop n f L l (pre ++ [x]) m (by simpa using hl) (by simp at hm; omega)
    have e1 : (f :: (pre ++ [x]) ++ l) = f :: pre ++ x :: l := by simp
    rw [e1] at ih
    have i0 : inB 0 (f :: pre ++ x :: l).length = true := by simp [inB]; omega
    have g0 : (f :: pre ++ x :: l).getD (Int.toNat 0) (Ty.dflt (.int .u8)) = f := by simp
    have tail : (bif inB ((f :: pre).length : Int) (f :: pre ++ x :: l).length then
        (bif (decide (((f :: pre ++ x :: l).getD (Int.toNat ((f :: pre).length : Int)) (Ty.dflt (.int .u8))) < 128)) then some 0
        else (bif inB ((f :: pre).length : Int) (f :: pre ++ x :: l).length then
          (bif (decide (((f :: pre ++ x :: l).getD (Int.toNat ((f :: pre).length : Int)) (Ty.dflt (.int .u8))) > 191)) then some 0
          else F58l0 n m (f :: pre ++ x :: l) L (IntKind.wrap .i64 (((f :: pre).length : Int) + 1))) else none)) else none) =
        some (if (decide (128 ≤ x) && decide (x ≤ 191)) && okC f (pre.length + 2) l then (if L = ((f :: pre ++ x :: l).length : Int) then 2 else 1) else 0) := by
      rw [ib, gx, hw, ih]
      have e2 : (pre ++ [x]).length + 1 = pre.length + 2 := by simp
      rw [e2]
      by_cases h1 : x < 128
      · have : ¬ (128 ≤ x) := by omega
        simp [h1, this]
      · have h1' : 128 ≤ x := by omega
        by_cases h2 : 191 < x
        · have : ¬ (x ≤ 191) := by omega
          have : decide (x > 191) = true := by simpa using h2
          simp [*]
        · have h2' : x ≤ 191 := by omega
          have : decide (x > 191) = false := by simpa using h2'
          simp [h1, h1', h2', this]
    unfold F58l0 F58l0F
    rw [hlt, cond_true]
    by_cases hp : pre = []
    · subst hp
      have e11 : ((([f] : List Int).length : Int) == 1) = true := rfl
      have i1 : inB 1 (f :: [] ++ x :: l).length = true := by simp [inB]; omega
      have g1 : (f :: [] ++ x :: l).getD (Int.toNat 1) (Ty.dflt (.int .u8)) = x := by simp
      simp only [e11, cond_true, i0, i1, g0, g1, F74_eq]
      cases hs : sec f x with
      | false => simp [okC, cont, hs]
      | true =>
        simp only [Bool.not_true, cond_false]
        rw [tail]
        simp [okC, cont, hs]
    · have e11 : (((f :: pre).length : Int) == 1) = false := by
        have := List.length_pos_iff.2 hp
        simp; omega
      rw [e11, cond_false, tail]
      have hp1 : ¬ (pre.length + 1 = 1) := by have := List.length_pos_iff.2 hp; omega
      simp only [okC, cont, if_neg hp1, Bool.true_and]

theorem F58_eq (n : Nat) (hn : 5 ≤ n) (f : Int) (r : List Int) (hf : isB f) :
    F58 n (f :: r) = some (if 4 < (f :: r).length then 0 else if lng f < ((f :: r).length : Int) then 0 else if okC f 1 r then (if lng f = ((f :: r).length : Int) then 2 else 1) else 0) := by
  unfold F58
  have e0 : (((f :: r).length : Int) == 0) = false := by simp; omega
  rw [e0, cond_false]
  by_cases h4 : 4 < (f :: r).length
  · have : decide (((f :: r).length : Int) > 4) = true := decide_eq_true (by omega)
    rw [this, if_pos h4]; rfl
  · have e4 : decide (((f :: r).length : Int) > 4) = false := decide_eq_false (by omega)
    have i0 : inB 0 (f :: r).length = true := by simp [inB]
    have g0 : (f :: r).getD (Int.toNat 0) (Ty.dflt (.int .u8)) = f := by simp
    rw [e4, i0, g0, F73_eq n hf, if_neg h4]
    simp only [cond_false, cond_true]
    by_cases hl : lng f < ((f :: r).length : Int)
    · have : decide (lng f < ((f :: r).length : Int)) = true := by simpa using hl
      rw [this, if_pos hl]; rfl
    · have : decide (lng f < ((f :: r).length : Int)) = false := by simpa using hl
      rw [this, if_neg hl, cond_false]
      have hh := F58_loop n f (lng f) r [] n (by simpa using h4) (by simp at h4; omega)
      simpa using hh

end Go.Proofs.YtaeamjhgfhcjdaaDoor.Ab.Pt

/- The document's All. -/
namespace Go.Proofs.YtaeamjhgfhcjdaaDoor.Ab.Pt
open Go Go.RowKit Go.Proofs.YtaeamjhgfhcjdaaDoor.Ab
set_option maxRecDepth 100000
set_option linter.unusedVariables false
set_option linter.unusedSimpArgs false

/-- What k bytes tell, the first of which is f. -/
def valC (c : Int) : List Int → Int
  | [] => c
  | x :: r => valC (c * 64 + (x - 128)) r

theorem valC_append (c : Int) (x : Int) : ∀ (l : List Int), valC c (l ++ [x]) = valC c l * 64 + (x - 128)
  | [] => rfl
  | y :: l => valC_append _ x l

/-- The first scalar, k bytes being begun. -/
def W : List Int → Nat → Int → Int → Int × Nat × Bool
  | [], k, _, _ => (0, k, false)
  | x :: r, k, f, c =>
    if k = 0 then (if lng x = 1 then (x, 1, true) else if lng x = 0 then (0, 0, false) else W r 1 x (lead x))
    else if cont k f x then (if (k : Int) + 1 < lng f then W r (k + 1) f (c * 64 + (x - 128)) else (c * 64 + (x - 128), k + 1, true))
    else (0, k, false)

theorem W_le : ∀ (l : List Int) (k : Nat) (f c : Int), k ≤ (W l k f c).2.1 ∧ (W l k f c).2.1 ≤ k + l.length ∧ ((W l k f c).2.2 = true → k < (W l k f c).2.1)
  | [], k, f, c => by simp [W]
  | x :: r, k, f, c => by
    unfold W
    split
    · rename_i hk
      subst hk
      split
      · simp
      · split
        · simp
        · have := W_le r 1 x (lead x)
          simp only [List.length_cons]
          omega
    · split
      · split
        · have := W_le r (k + 1) f (c * 64 + (x - 128))
          simp only [List.length_cons]
          omega
        · simp
      · simp

theorem U_any : ∀ (l : List Int) (pos : Nat) (acc : List Int) (f c f' c' : Int), U l pos acc 0 f c = U l pos acc 0 f' c'
  | [], _, _, _, _, _, _ => rfl
  | x :: l, pos, acc, f, c, f', c' => by
    simp only [U, if_true]
    rw [U_any l (pos + 1) (acc ++ [x]) f c f' c']

theorem U_W : ∀ (l : List Int) (k : Nat) (f c : Int) (pos : Nat) (acc : List Int), ¬ (l = [] ∧ k = 0) →
    U l pos acc k f c = if (W l k f c).2.2 then U (l.drop ((W l k f c).2.1 - k)) (pos + ((W l k f c).2.1 - k)) (acc ++ [(W l k f c).1]) 0 0 0 else ([], pos + ((W l k f c).2.1 - k), false)
  | [], k, f, c, pos, acc, h => by
    have : k ≠ 0 := fun e => h ⟨rfl, e⟩
    simp [U, W, this]
  | x :: l, k, f, c, pos, acc, _ => by
    have hk0 := fun k' f' c' => W_le l k' f' c'
    rw [U, W]
    split
    · rename_i hk
      subst hk
      split
      · simp only [Nat.sub_zero, if_true, List.drop_succ_cons, List.drop_zero]
        exact U_any _ _ _ _ _ _ _
      · split
        · simp
        · rw [U_W l 1 x (lead x) (pos + 1) acc (by simp)]
          have := hk0 1 x (lead x)
          generalize W l 1 x (lead x) = w at *
          have e1 : w.2.1 = (w.2.1 - 1) + 1 := by omega
          rw [Nat.sub_zero]
          have e2 : pos + 1 + (w.2.1 - 1) = pos + w.2.1 := by omega
          rw [e2]
          have e3 : (x :: l).drop w.2.1 = l.drop (w.2.1 - 1) := by
            conv => lhs; rw [e1]
            rfl
          rw [e3]
    · rename_i hk
      split
      · split
        · rw [U_W l (k + 1) f _ (pos + 1) acc (by simp)]
          have := hk0 (k + 1) f (c * 64 + (x - 128))
          generalize W l (k + 1) f (c * 64 + (x - 128)) = w at *
          have e2 : pos + 1 + (w.2.1 - (k + 1)) = pos + (w.2.1 - k) := by omega
          rw [e2]
          have e1 : w.2.1 - k = (w.2.1 - (k + 1)) + 1 := by omega
          have e3 : (x :: l).drop (w.2.1 - k) = l.drop (w.2.1 - (k + 1)) := by
            conv => lhs; rw [e1]
            rfl
          rw [e3]
        · have e1 : k + 1 - k = 1 := by omega
          simp only [e1, if_true, List.drop_succ_cons, List.drop_zero]
          exact U_any _ _ _ _ _ _ _
      · simp

theorem isB_wrap32 {x : Int} (h : isB x) : IntKind.wrap .i32 x = x := wrap32 (by have := h.1; omega) (by have := h.2; omega)

theorem valC_range : ∀ (l : List Int) (c : Int) (j : Nat), (∀ x ∈ l, 128 ≤ x ∧ x ≤ 191) → 0 ≤ c → c < 32 * 64 ^ j → 0 ≤ valC c l ∧ valC c l < 32 * 64 ^ (j + l.length)
  | [], c, j, _, h0, h1 => ⟨h0, by simpa [valC] using h1⟩
  | x :: l, c, j, h, h0, h1 => by
    have hx := h x (by simp)
    have e : (32 : Int) * 64 ^ (j + 1) = 32 * 64 ^ j * 64 := by rw [Int.pow_succ, Int.mul_assoc]
    have := valC_range l (c * 64 + (x - 128)) (j + 1) (fun y hy => h y (by simp [hy])) (by omega) (by rw [e]; omega)
    rw [show j + 1 + l.length = j + (x :: l).length by simp; omega] at this
    exact this

theorem F59_loop (n : Nat) : ∀ (l pre : List Int) (c : Int) (j m : Nat), (∀ x ∈ l, 128 ≤ x ∧ x ≤ 191) → 0 ≤ c → c < 32 * 64 ^ j → j + l.length ≤ 4 → (pre ++ l).length ≤ 1000 → l.length + 1 ≤ m →
    F59l1 n m (pre ++ l) c (pre.length : Int) = some (valC c l)
  | [], pre, c, j, m, _, _, _, _, _, hm => by
    obtain ⟨m, rfl⟩ : ∃ j, m = j + 1 := ⟨m - 1, by simp at hm; omega⟩
    simp [F59l1, F59l1F, valC]
  | x :: l, pre, c, j, m, h, h0, h1, hj, hl, hm => by
    obtain ⟨m, rfl⟩ : ∃ j, m = j + 1 := ⟨m - 1, by simp at hm; omega⟩
    have hlt : decide ((pre.length : Int) < ((pre ++ x :: l).length : Int)) = true := by simp; omega
    have hx := h x (by simp)
    simp only [List.length_cons, List.length_append] at hj hl
    have e : (32 : Int) * 64 ^ (j + 1) = 32 * 64 ^ j * 64 := by rw [Int.pow_succ, Int.mul_assoc]
    have hp : (32 : Int) * 64 ^ j ≤ 32 * 64 ^ 3 := by
      have h3 : j = 0 ∨ j = 1 ∨ j = 2 ∨ j = 3 := by omega
      rcases h3 with rfl | rfl | rfl | rfl <;> decide
    rw [show (32 : Int) * 64 ^ 3 = 8388608 by decide] at hp
    have ih := F59_loop n l (pre ++ [x]) (c * 64 + (x - 128)) (j + 1) m (fun y hy => h y (by simp [hy])) (by omega) (by rw [e]; omega) (by omega) (by simp; omega) (by simp at hm; omega)
    simp only [List.append_assoc, List.singleton_append, List.length_append, List.length_singleton] at ih
    unfold F59l1 F59l1F
    rw [hlt, inB_pre', getD_preI, cond_true, cond_true]
    rw [wrap32 (x := x) (by omega) (by omega), wrap32 (x := c * 64) (by omega) (by omega), wrap32 (x := c * 64 + x) (by omega) (by omega), wrap32 (by omega) (by omega), wrap64 (by omega) (by omega)]
    rw [show c * 64 + x - 128 = c * 64 + (x - 128) by omega]
    exact ih

theorem okC_mem (f : Int) : ∀ (l : List Int) (k : Nat), okC f k l = true → ∀ x ∈ l, 128 ≤ x ∧ x ≤ 191
  | [], _, _, x, hx => by simp at hx
  | y :: l, k, h, x, hx => by
    simp only [okC, cont, Bool.and_eq_true, decide_eq_true_eq] at h
    rcases List.mem_cons.1 hx with rfl | hx
    · exact h.1.2
    · exact okC_mem f l (k + 1) h.2 x hx

theorem lead_lt {f : Int} (hf : isB f) (hl : 1 ≤ lng f) : 0 ≤ lead f ∧ lead f ≤ 127 ∧ (2 ≤ lng f → lead f < 32 * 64 ^ 0) := by
  have h := byteTab (p := fun f => decide (lng f < 1) || (decide (0 ≤ lead f) && decide (lead f ≤ 127) && (decide (lng f < 2) || decide (lead f < 32 * 64 ^ 0)))) (by decide +kernel) hf
  rw [decide_eq_false (by omega), Bool.false_or] at h
  simp only [Bool.and_eq_true, Bool.or_eq_true, decide_eq_true_eq] at h
  exact ⟨h.1.1, h.1.2, fun h2 => by omega⟩

/-- The scalar of its bytes. -/
theorem F59_eq (n : Nat) (hn : 5 ≤ n) {f : Int} {r : List Int} (hf : isB f) (hl : lng f = ((f :: r).length : Int)) (hr : okC f 1 r = true) : F59 n (f :: r) = some (valC (lead f) r) := by
  have hle := lng_le f
  obtain ⟨h0, h127, hll⟩ := lead_lt hf (by rw [hl]; simp; omega)
  have hmem := okC_mem f r 1 hr
  have hlen : r.length + 1 ≤ 4 := by rw [hl] at hle; simp at hle; omega
  have i0 : inB 0 (f :: r).length = true := by simp [inB]
  have g0 : (f :: r).getD (Int.toNat 0) (Ty.dflt (.int .u8)) = f := by simp
  have main : F59j0 n (f :: r) (lead f) = some (valC (lead f) r) := by
    unfold F59j0
    cases hr0 : r with
    | nil =>
      have := F59_loop n [] [f] (lead f) 1 n (by simp) h0 (by rw [show (32 : Int) * 64 ^ 1 = 2048 by decide]; omega) (by simp) (by simp) (by simp; omega)
      simpa using this
    | cons y q =>
      have h2 : 2 ≤ lng f := by rw [hl, hr0]; simp; omega
      have := F59_loop n r [f] (lead f) 0 n hmem h0 (hll h2) (by omega) (by simp; omega) (by omega)
      rw [hr0] at this
      simpa using this
  unfold F59
  rw [i0, g0, cond_true, isB_wrap32 hf]
  rw [← hl]
  have hfl := hf.1; have hfr := hf.2
  by_cases h2 : lng f = 2
  · have e : lead f = f - 192 := by rw [lead, if_pos h2]
    rw [h2, wrap32 (x := f - 192) (by omega) (by omega), ← e]; exact main
  · by_cases h3 : lng f = 3
    · have e : lead f = f - 224 := by rw [lead, if_neg h2, if_pos h3]
      rw [h3, wrap32 (x := f - 224) (by omega) (by omega), ← e]; exact main
    · by_cases h4 : lng f = 4
      · have e : lead f = f - 240 := by rw [lead, if_neg h2, if_neg h3, if_pos h4]
        rw [h4, wrap32 (x := f - 240) (by omega) (by omega), ← e]; exact main
      · have e : lead f = f := by rw [lead, if_neg h2, if_neg h3, if_neg h4]
        have e2 : (lng f == 2) = false := by simpa using h2
        have e3 : (lng f == 3) = false := by simpa using h3
        have e4 : (lng f == 4) = false := by simpa using h4
        rw [e2, e3, e4]
        simp only [cond_false]
        rw [e] at main
        rw [e]
        exact main

/-- What is begun, as bytes. -/
def Pref (p : List Int) (k : Nat) (f c : Int) : Prop :=
  p.length = k ∧ (k = 0 ∨ ∃ q, p = f :: q ∧ isB f ∧ okC f 1 q = true ∧ (k : Int) < lng f ∧ c = valC (lead f) q)

theorem okC_snoc {f : Int} {q : List Int} {x : Int} (h : okC f 1 q = true) : okC f 1 (q ++ [x]) = cont (q.length + 1) f x := by
  rw [okC_append, h, Bool.true_and, okC, okC, Bool.and_true, Nat.add_comm]

theorem take_cut (t : List Int) (k : Nat) (hk : (k : Int) < (t.length : Int)) (hl : t.length ≤ 100000) :
    (cutB 0 (IntKind.wrap .i64 ((k : Int) + 1)) (t).length && true) = true ∧ (((t).drop (Int.toNat 0)).take (Int.toNat (IntKind.wrap .i64 ((k : Int) + 1)) - Int.toNat 0)) = t.take (k + 1) := by
  rw [wrap64 (by omega) (by omega)]
  refine ⟨by simp [cutB]; omega, by simp⟩

theorem F40_stop (n : Nat) (p r : List Int) (x : Int) (hl : (p ++ x :: r).length ≤ 100000) (a : Int) (h58 : F58 n (p ++ [x]) = some a) (v : Int) (h59 : a = 2 → F59 n (p ++ [x]) = some v) :
    F40j0 n (p ++ x :: r) (p.length : Int) = some (if a = 2 then (v, (p.length : Int) + 1, true) else (0, (p.length : Int), false)) := by
  have hlt : decide ((p.length : Int) < ((p ++ x :: r).length : Int)) = true := by simp; omega
  obtain ⟨c1, c2⟩ := take_cut (p ++ x :: r) p.length (by simp; omega) hl
  have e : (p ++ x :: r).take (p.length + 1) = p ++ [x] := by rw [List.take_append, List.take_of_length_le (Nat.le_succ _)]; simp
  unfold F40j0
  rw [hlt, c1, c2, e, h58]
  simp only [cond_true]
  by_cases h2 : a = 2
  · subst h2
    rw [h59 rfl, wrap64 (by omega) (by simp at hl; omega)]
    simp
  · have : (a == 2) = false := by simpa using h2
    simp [this, h2]

theorem F40_loop (n : Nat) (hn : 5 ≤ n) : ∀ (r p : List Int) (k : Nat) (f c : Int) (m : Nat), (∀ x ∈ r, isB x) → (p ++ r).length ≤ 100000 → Pref p k f c → r.length + 1 ≤ m →
    F40l1 n m (p ++ r) (k : Int) = some ((W r k f c).1, (((W r k f c).2.1 : Nat) : Int), (W r k f c).2.2)
  | [], p, k, f, c, m, _, hl, ⟨hp, _⟩, hm => by
    obtain ⟨m, rfl⟩ : ∃ j, m = j + 1 := ⟨m - 1, by simp at hm; omega⟩
    subst hp
    simp [F40l1, F40l1F, F40j0, W]
  | x :: r, p, k, f, c, m, hB, hl, ⟨hp, hst⟩, hm => by
    obtain ⟨m, rfl⟩ : ∃ j, m = j + 1 := ⟨m - 1, by simp at hm; omega⟩
    subst hp
    have hx := hB x (by simp)
    have hB' : ∀ y ∈ r, isB y := fun y hy => hB y (by simp [hy])
    have hlt : decide ((p.length : Int) < ((p ++ x :: r).length : Int)) = true := by simp; omega
    obtain ⟨c1, c2⟩ := take_cut (p ++ x :: r) p.length (by simp; omega) hl
    have e : (p ++ x :: r).take (p.length + 1) = p ++ [x] := by rw [List.take_append, List.take_of_length_le (Nat.le_succ _)]; simp
    have ih := fun f' c' h => F40_loop n hn r (p ++ [x]) (p.length + 1) f' c' m hB' (by simpa using hl) h (by simp at hm; omega)
    simp only [List.append_assoc, List.singleton_append] at ih
    have hw : IntKind.wrap .i64 ((p.length : Int) + 1) = ((p.length + 1 : Nat) : Int) := by rw [wrap64 (by omega) (by simp at hl; omega)]; simp
    have go : ∀ a : Int, F58 n (p ++ [x]) = some a → F40l1 n (m + 1) (p ++ x :: r) (p.length : Int) = bif (a == 1) then F40l1 n m (p ++ x :: r) ((p.length + 1 : Nat) : Int) else F40j0 n (p ++ x :: r) (p.length : Int) := by
      intro a ha
      rw [F40l1, F40l1F, hlt, c1, c2, e, ha, hw]
      rfl
    rcases hst with h0 | ⟨q, rfl, hf, hok, hkl, rfl⟩
    · have : p = [] := List.length_eq_zero_iff.1 h0
      subst this
      have h58 := F58_eq n hn x [] hx
      simp only [List.length_singleton, okC, if_true] at h58
      rw [if_neg (by omega)] at h58
      by_cases h1 : lng x = 1
      · have h58' : F58 n ([] ++ [x]) = some 2 := by rw [List.nil_append, h58, h1]; rfl
        rw [go 2 h58']
        have h59 : F59 n [x] = some x := by
          have := F59_eq n hn (f := x) (r := []) hx (by rw [h1]; rfl) rfl
          rw [this]
          have : lead x = x := by unfold lead; rw [h1]; rfl
          simp [valC, this]
        have := F40_stop n [] r x hl 2 h58' x (fun _ => h59)
        rw [show ((2 : Int) == 1) = false from rfl, cond_false, this]
        simp [W, h1]
      · by_cases h00 : lng x = 0
        · have h58' : F58 n ([] ++ [x]) = some 0 := by rw [List.nil_append, h58, h00]; rfl
          rw [go 0 h58']
          have := F40_stop n [] r x hl 0 h58' 0 (fun h => by cases h)
          rw [show ((0 : Int) == 1) = false from rfl, cond_false, this]
          simp [W, h00]
        · have h2 : 2 ≤ lng x := by have := lng_nonneg x; omega
          have h58' : F58 n ([] ++ [x]) = some 1 := by
            rw [List.nil_append, h58, if_neg (by simp; omega), if_neg (by simp; omega)]
          rw [go 1 h58', show ((1 : Int) == 1) = true from rfl, cond_true]
          have := ih x (lead x) ⟨by simp, .inr ⟨[], rfl, hx, rfl, by simp; omega, rfl⟩⟩
          rw [this]
          simp only [W, List.length_nil, if_true, h1, h00, if_false]
    · have hll := lng_le f
      have hq : (f :: q).length = q.length + 1 := rfl
      rw [hq] at hkl
      have h58 := F58_eq n hn f (q ++ [x]) hf
      rw [okC_snoc hok] at h58
      have hlen : (f :: (q ++ [x])).length = q.length + 2 := by simp
      rw [hlen, if_neg (by omega), if_neg (by omega)] at h58
      have hkn : ¬ ((f :: q).length = 0) := by simp
      have hW : W (x :: r) (f :: q).length f (valC (lead f) q) = if cont (q.length + 1) f x then (if ((q.length + 1 : Nat) : Int) + 1 < lng f then W r (q.length + 2) f (valC (lead f) q * 64 + (x - 128)) else (valC (lead f) q * 64 + (x - 128), q.length + 2, true)) else (0, q.length + 1, false) := by
        rw [W, if_neg hkn]; rfl
      rw [hW]
      cases hc : cont (q.length + 1) f x with
      | false =>
        rw [hc] at h58
        have h58' : F58 n (f :: q ++ [x]) = some 0 := h58
        rw [go 0 h58']
        have := F40_stop n (f :: q) r x hl 0 h58' 0 (fun h => by cases h)
        rw [show ((0 : Int) == 1) = false from rfl, cond_false, this]
        simp
      | true =>
        rw [hc] at h58
        simp only [if_true] at h58 ⊢
        by_cases hh : ((q.length + 1 : Nat) : Int) + 1 < lng f
        · have h58' : F58 n (f :: q ++ [x]) = some 1 := by
            rw [if_neg (by omega)] at h58
            exact h58
          rw [go 1 h58', show ((1 : Int) == 1) = true from rfl, cond_true, if_pos hh]
          have := ih f (valC (lead f) (q ++ [x])) ⟨by simp, .inr ⟨q ++ [x], rfl, hf, by rw [okC_snoc hok, hc], by simp; omega, rfl⟩⟩
          rw [valC_append] at this
          exact this
        · have e2 : lng f = ((q.length + 2 : Nat) : Int) := by omega
          have h58' : F58 n (f :: q ++ [x]) = some 2 := by
            rw [if_pos e2] at h58
            exact h58
          rw [go 2 h58', if_neg hh]
          have h59 := F59_eq n hn (f := f) (r := q ++ [x]) hf (by rw [hlen]; exact e2) (by rw [okC_snoc hok, hc])
          have := F40_stop n (f :: q) r x hl 2 h58' _ (fun _ => h59)
          rw [show ((2 : Int) == 1) = false from rfl, cond_false, this, valC_append]
          simp; omega

theorem F40_eq (n : Nat) (l : List Int) (hB : ∀ x ∈ l, isB x) (hl : l.length ≤ 100000) (hn : l.length + 5 ≤ n) : F40 n l = some ((W l 0 0 0).1, (((W l 0 0 0).2.1 : Nat) : Int), (W l 0 0 0).2.2) := by
  have := F40_loop n (by omega) l [] 0 0 0 n hB (by simpa using hl) ⟨rfl, .inl rfl⟩ (by omega)
  exact this

theorem F21_loop (n : Nat) : ∀ (j : Nat) (l pre acc : List Int) (m : Nat), l.length ≤ j → (∀ x ∈ l, isB x) → (pre ++ l).length ≤ 100000 → acc.length ≤ pre.length → l.length + 1 ≤ m → (pre ++ l).length + 5 ≤ n →
    F21l0 n m (pre ++ l) acc (pre.length : Int) = some (outU (U l pre.length acc 0 0 0)) := by
  intro j
  induction j with
  | zero =>
    intro l pre acc m hj _ _ _ hm _
    have : l = [] := List.length_eq_zero_iff.1 (by omega)
    subst this
    obtain ⟨m, rfl⟩ : ∃ j, m = j + 1 := ⟨m - 1, by simp at hm; omega⟩
    simp [F21l0, F21l0F, U, outU]
  | succ j ih =>
    intro l pre acc m hj hB hl ha hm hn
    obtain ⟨m, rfl⟩ : ∃ j, m = j + 1 := ⟨m - 1, by omega⟩
    by_cases hnil : l = []
    · subst hnil
      simp [F21l0, F21l0F, U, outU]
    · have hpos := List.length_pos_iff.2 hnil
      simp only [List.length_append] at hl hn
      have hlt : decide ((pre.length : Int) < ((pre ++ l).length : Int)) = true := by simp; omega
      have hcut : (cutB (pre.length : Int) ((pre ++ l).length : Int) (pre ++ l).length && true) = true := by simp [cutB]; omega
      have hdrop : (((pre ++ l).drop (Int.toNat (pre.length : Int))).take (Int.toNat ((pre ++ l).length : Int) - Int.toNat (pre.length : Int))) = l := by simp; apply List.take_of_length_le; omega
      rw [F21l0, F21l0F, hlt, hcut, hdrop, F40_eq n l hB (by omega) (by omega)]
      rw [U_W l 0 0 0 pre.length acc (fun h => hnil h.1)]
      obtain ⟨w1, w2, w3⟩ := W_le l 0 0 0
      generalize W l 0 0 0 = w at *
      obtain ⟨v, k, ok⟩ := w
      simp only [Nat.zero_add] at w2
      simp only [cond_true]
      cases ok with
      | false =>
        simp only [Bool.not_false, cond_true, Bool.false_eq_true, if_false, outU]
        rw [wrap64 (by omega) (by omega)]
        simp
      | true =>
        have hk : 0 < k := w3 rfl
        have hr := room4 (acc.length + ([v] : List Int).length) (by simp; omega)
        simp only [Bool.not_true, cond_false, hr, cond_true, if_true, Nat.sub_zero]
        have hsplit : pre ++ l = (pre ++ l.take k) ++ l.drop k := by simp
        have hlen : (pre ++ l.take k).length = pre.length + k := by simp; omega
        have := ih (l.drop k) (pre ++ l.take k) (acc ++ [v]) m (by simp; omega) (fun x hx => hB x (List.mem_of_mem_drop hx)) (by rw [← hsplit]; simp; omega) (by rw [hlen]; simp; omega) (by simp; omega) (by rw [← hsplit]; simp; omega)
        rw [← hsplit, hlen] at this
        rw [wrap64 (by omega) (by omega)]
        rw [← this]
        congr 1

/-- What the document's All tells. -/
theorem F21_eq (n : Nat) (l : List Int) (hB : ∀ x ∈ l, isB x) (hl : l.length ≤ 100000) (hn : l.length + 5 ≤ n) : F21 n l = some (outU (U l 0 [] 0 0 0)) :=
  F21_loop n l.length l [] [] n (Nat.le_refl _) hB (by simpa using hl) (Nat.le_refl _) (by omega) (by simpa using hn)

end Go.Proofs.YtaeamjhgfhcjdaaDoor.Ab.Pt
