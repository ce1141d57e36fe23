/- The scalars of bytes: what utf8.All and the document's All tell, in plain Lean. -/
import Derived.Test.YtaeamjhgfhcjdaaDoorPA
namespace Go.Proofs.YtaeamjhgfhcjdaaDoor.Ab.Pt
open Go Go.RowKit Go.Proofs.YtaeamjhgfhcjdaaDoor.Ab
set_option maxRecDepth 100000
set_option linter.unusedVariables false
set_option linter.unusedSimpArgs false

/-- Of how many bytes a scalar is that begins so. -/
def lng (x : Int) : Int := if x < 128 then 1 else if 194 ≤ x ∧ x ≤ 223 then 2 else if 224 ≤ x ∧ x ≤ 239 then 3 else if 240 ≤ x ∧ x ≤ 244 then 4 else 0

def sec (f x : Int) : Bool :=
  if f = 224 then decide (160 ≤ x) && decide (x ≤ 191) else if f = 237 then decide (128 ≤ x) && decide (x ≤ 159) else
  if f = 240 then decide (144 ≤ x) && decide (x ≤ 191) else if f = 244 then decide (128 ≤ x) && decide (x ≤ 143) else decide (128 ≤ x) && decide (x ≤ 191)

def lead (x : Int) : Int := if lng x = 2 then x - 192 else if lng x = 3 then x - 224 else if lng x = 4 then x - 240 else x

/-- May a byte stand behind k bytes that begin with f? -/
def cont (k : Nat) (f x : Int) : Bool := (if k = 1 then sec f x else true) && (decide (128 ≤ x) && decide (x ≤ 191))

/-- The scalars of bytes: k bytes are begun, the first is f, they tell c so far. -/
def U : List Int → Nat → List Int → Nat → Int → Int → List Int × Nat × Bool
  | [], pos, acc, k, f, c => if k = 0 then (acc, pos, true) else ([], pos, false)
  | x :: r, pos, acc, k, f, c =>
    if k = 0 then
      (if lng x = 1 then U r (pos + 1) (acc ++ [x]) 0 f c
      else if lng x = 0 then ([], pos, false)
      else U r (pos + 1) acc 1 x (lead x))
    else if cont k f x then
      (if (k : Int) + 1 < lng f then U r (pos + 1) acc (k + 1) f (c * 64 + (x - 128))
      else U r (pos + 1) (acc ++ [c * 64 + (x - 128)]) 0 f (c * 64 + (x - 128)))
    else ([], pos, false)

/-- A byte. -/
def isB (x : Int) : Prop := 0 ≤ x ∧ x ≤ 255

theorem byteTab {p : Int → Bool} (h : (List.range 256).all (fun k => p (k : Int)) = true) {x : Int} (hx : isB x) : p x = true := by
  have := List.all_eq_true.1 h x.toNat (List.mem_range.2 (by have := hx.1; have := hx.2; omega))
  rwa [show ((x.toNat : Nat) : Int) = x by have := hx.1; omega] at this

theorem F66_eq (n : Nat) {x : Int} (hx : isB x) : F66 n x = some (lng x) := by
  have h : (F66 0 x == some (lng x)) = true := byteTab (p := fun x => F66 0 x == some (lng x)) (by decide +kernel) hx
  exact eq_of_beq h

theorem F73_eq (n : Nat) {x : Int} (hx : isB x) : F73 n x = some (lng x) := by
  have h : (F73 0 x == some (lng x)) = true := byteTab (p := fun x => F73 0 x == some (lng x)) (by decide +kernel) hx
  exact eq_of_beq h

theorem F74_eq (n : Nat) (f x : Int) : F74 n f x = some (sec f x) := by
  unfold F74 sec
  by_cases h1 : f = 224
  · subst h1; by_cases h : (160 : Int) ≤ x <;> simp [h]
  have e1 : (f == 224) = false := by simpa using h1
  by_cases h2 : f = 237
  · subst h2; by_cases h : (128 : Int) ≤ x <;> simp [h]
  have e2 : (f == 237) = false := by simpa using h2
  by_cases h3 : f = 240
  · subst h3; by_cases h : (144 : Int) ≤ x <;> simp [h]
  have e3 : (f == 240) = false := by simpa using h3
  by_cases h4 : f = 244
  · subst h4; by_cases h : (128 : Int) ≤ x <;> simp [h]
  have e4 : (f == 244) = false := by simpa using h4
  by_cases h : (128 : Int) ≤ x <;> simp [h, h1, h2, h3, h4, e1, e2, e3, e4]

theorem F67_eq (n : Nat) {f x : Int} (hf : isB f) (hl : 2 ≤ lng f) (hx : isB x) : F67 n f x = some (sec f x) := by
  have h : (decide (lng f < 2) || (List.range 256).all fun k => F67 0 f (k : Int) == some (sec f (k : Int))) = true :=
    byteTab (p := fun f => decide (lng f < 2) || (List.range 256).all fun k => F67 0 f (k : Int) == some (sec f (k : Int))) (by decide +kernel) hf
  rw [decide_eq_false (by omega), Bool.false_or] at h
  have := byteTab (p := fun x => F67 0 f x == some (sec f x)) h hx
  exact eq_of_beq this

theorem and63 {x : Int} (hx : isB x) : (IntKind.wrap .u8 (BitVec.ofInt (IntKind.bits .u8) x &&& BitVec.ofInt (IntKind.bits .u8) 63).toNat) = x % 64 := by
  have h := byteTab (p := fun x => (IntKind.wrap .u8 (BitVec.ofInt (IntKind.bits .u8) x &&& BitVec.ofInt (IntKind.bits .u8) 63).toNat) == x % 64) (by decide +kernel) hx
  exact eq_of_beq h

theorem not63 {x : Int} (hx : isB x) : ((IntKind.wrap .u8 (BitVec.ofInt (IntKind.bits .u8) x &&& ~~~ (BitVec.ofInt (IntKind.bits .u8) 63)).toNat) != 128) = !(decide (128 ≤ x) && decide (x ≤ 191)) := by
  have h := byteTab (p := fun x => ((IntKind.wrap .u8 (BitVec.ofInt (IntKind.bits .u8) x &&& ~~~ (BitVec.ofInt (IntKind.bits .u8) 63)).toNat) != 128) == !(decide (128 ≤ x) && decide (x ≤ 191))) (by decide +kernel) hx
  exact eq_of_beq h

theorem lead_eq {x : Int} (hx : isB x) (hl : 2 ≤ lng x) : (IntKind.wrap .i32 (BitVec.ofInt (IntKind.bits .i32) (IntKind.wrap .i32 x) &&& BitVec.ofInt (IntKind.bits .i32) (Int.fdiv 127 (2 ^ (min (Int.toNat (lng x)) (IntKind.bits .i32))))).toNat) = lead x := by
  have h := byteTab (p := fun x => decide (lng x < 2) || ((IntKind.wrap .i32 (BitVec.ofInt (IntKind.bits .i32) (IntKind.wrap .i32 x) &&& BitVec.ofInt (IntKind.bits .i32) (Int.fdiv 127 (2 ^ (min (Int.toNat (lng x)) (IntKind.bits .i32))))).toNat) == lead x)) (by decide +kernel) hx
  rw [decide_eq_false (by omega), Bool.false_or] at h
  exact eq_of_beq h

theorem lead_range {x : Int} (hx : isB x) (hl : 2 ≤ lng x) : 0 ≤ lead x ∧ lead x ≤ 31 := by
  have h := byteTab (p := fun x => decide (lng x < 2) || (decide (0 ≤ lead x) && decide (lead x ≤ 31))) (by decide +kernel) hx
  rw [decide_eq_false (by omega), Bool.false_or] at h
  simpa using h

theorem lng_le (x : Int) : lng x ≤ 4 := by unfold lng; (repeat' split) <;> omega
theorem lng_nonneg (x : Int) : 0 ≤ lng x := by unfold lng; (repeat' split) <;> omega

theorem or32 {c x : Int} (h0 : 0 ≤ c) (h1 : c ≤ 33554431) (hx : 128 ≤ x ∧ x ≤ 191) :
    (IntKind.wrap .i32 (BitVec.ofInt (IntKind.bits .i32) (IntKind.wrap .i32 (c * 2 ^ (min (Int.toNat (6)) (IntKind.bits .i32)))) ||| BitVec.ofInt (IntKind.bits .i32) (IntKind.wrap .i32 ((IntKind.wrap .u8 (BitVec.ofInt (IntKind.bits .u8) x &&& BitVec.ofInt (IntKind.bits .u8) 63).toNat)))).toNat) = c * 64 + (x - 128) := by
  rw [and63 ⟨by omega, by omega⟩]
  have e6 : (2 : Int) ^ (min (Int.toNat 6) (IntKind.bits .i32)) = 64 := by decide
  rw [e6, wrap32 (x := c * 64) (by omega) (by omega), wrap32 (x := x % 64) (by omega) (by omega)]
  have ea : BitVec.ofInt (IntKind.bits .i32) (c * 64) = BitVec.ofNat 32 (c.toNat * 64) := by
    rw [show c * 64 = ((c.toNat * 64 : Nat) : Int) by omega]; rfl
  have eb : BitVec.ofInt (IntKind.bits .i32) (x % 64) = BitVec.ofNat 32 (x % 64).toNat := by
    conv => lhs; rw [show x % 64 = (((x % 64).toNat : Nat) : Int) by omega]
    rfl
  rw [ea, eb]
  have et : (BitVec.ofNat 32 (c.toNat * 64) ||| BitVec.ofNat 32 (x % 64).toNat).toNat = c.toNat * 64 + (x % 64).toNat := by
    rw [BitVec.toNat_or, BitVec.toNat_ofNat, BitVec.toNat_ofNat, Nat.mod_eq_of_lt (by omega), Nat.mod_eq_of_lt (by omega)]
    have := Nat.two_pow_add_eq_or_of_lt (i := 6) (b := (x % 64).toNat) (by omega) c.toNat
    rw [show (2 : Nat) ^ 6 = 64 by decide] at this
    rw [Nat.mul_comm, this]
  refine (congrArg (fun k : Nat => IntKind.wrap .i32 (k : Int)) et).trans ?_
  show IntKind.wrap .i32 ((c.toNat * 64 + (x % 64).toNat : Nat) : Int) = _
  rw [wrap32 (by omega) (by omega)]
  omega

/-! ### utf8.Push -/

abbrev Rd := Int × (Int × (Int × (Int × Unit)))

theorem push_one (n : Nat) {f c d x : Int} (hx : isB x) (hl : lng x = 1) : F54 n (f, c, 0, d, ()) x = some ((f, c, 0, d, ()), x, 2) := by
  unfold F54
  rw [F66_eq n hx, hl]
  have := hx.1; have := hx.2
  simp [wrap32 (x := x) (by omega) (by omega)]

theorem push_none (n : Nat) {f c d x : Int} (hx : isB x) (hl : lng x = 0) : F54 n (f, c, 0, d, ()) x = some ((f, c, 0, d, ()), 0, 3) := by
  unfold F54
  rw [F66_eq n hx, hl]
  simp

theorem push_begin (n : Nat) {f c d x : Int} (hx : isB x) (hl : 2 ≤ lng x) : F54 n (f, c, 0, d, ()) x = some ((x, lead x, 1, lng x, ()), 0, 1) := by
  have h1 : (lng x == 1) = false := by simp; omega
  have h0 : (lng x == 0) = false := by simp; omega
  have hp : decide (0 ≤ lng x) = true := by simp; omega
  unfold F54
  rw [F66_eq n hx]
  simp only [h1, h0, hp, cond_false, cond_true, lead_eq hx hl, beq_self_eq_true]

theorem push_cont (n : Nat) {f c x : Int} {k : Nat} (hf : isB f) (hk1 : 1 ≤ k) (hk : (k : Int) < lng f) (hc0 : 0 ≤ c) (hc1 : c ≤ 33554431) (hx : isB x) (h : cont k f x = true) :
    F54 n (f, c, (k : Int), lng f, ()) x = some (if (k : Int) + 1 < lng f then ((f, c * 64 + (x - 128), (k : Int) + 1, lng f, ()), 0, 1) else ((f, c * 64 + (x - 128), 0, lng f, ()), c * 64 + (x - 128), 2)) := by
  have e0 : ((k : Int) == 0) = false := by simp; omega
  have hle := lng_le f
  simp only [cont, Bool.and_eq_true] at h
  obtain ⟨hs, h1, h2⟩ := h
  have h1' := of_decide_eq_true h1
  have h2' := of_decide_eq_true h2
  have hj : F54j0 n x f c (k : Int) (lng f) = some (if (k : Int) + 1 < lng f then ((f, c * 64 + (x - 128), (k : Int) + 1, lng f, ()), 0, 1) else ((f, c * 64 + (x - 128), 0, lng f, ()), c * 64 + (x - 128), 2)) := by
    unfold F54j0
    rw [or32 hc0 hc1 ⟨h1', h2'⟩, wrap64 (by omega) (by omega)]
    by_cases hh : (k : Int) + 1 < lng f <;> simp [hh]
  unfold F54
  simp only [e0, cond_false, not63 hx, h1, h2, hj, Bool.and_self, Bool.not_true]
  by_cases hk1' : k = 1
  · subst hk1'
    rw [if_pos rfl] at hs
    rw [F67_eq n hf (by omega) hx, hs]
    simp
  · have e1 : ((k : Int) == 1) = false := by simp; omega
    simp only [e1, cond_false]

theorem push_wrong (n : Nat) {f c x : Int} {k : Nat} (hf : isB f) (hk1 : 1 ≤ k) (hk : (k : Int) < lng f) (hx : isB x) (h : cont k f x = false) :
    F54 n (f, c, (k : Int), lng f, ()) x = some ((f, c, (k : Int), lng f, ()), 0, 3) := by
  have e0 : ((k : Int) == 0) = false := by simp; omega
  unfold F54
  simp only [e0, cond_false, not63 hx]
  simp only [cont] at h
  by_cases hk1' : k = 1
  · subst hk1'
    rw [if_pos rfl] at h
    rw [F67_eq n hf (by omega) hx]
    cases hs : sec f x with
    | false => simp
    | true =>
      rw [hs, Bool.true_and] at h
      simp [h]
  · have e1 : ((k : Int) == 1) = false := by simp; omega
    rw [if_neg hk1', Bool.true_and] at h
    simp [e1, h]

end Go.Proofs.YtaeamjhgfhcjdaaDoor.Ab.Pt
