/- Scalars, texts and values by numbers. -/
import Derived.Test.YtaeamjhgfhcjdaaDoorP4
namespace Go.Proofs.YtaeamjhgfhcjdaaDoor.Ab.Pt
open Go Go.RowKit Go.Proofs.YtaeamjhgfhcjdaaDoor.Ab Go.Proofs.YtaeamjhgfhcjdaaDoor.Ab.Ar
set_option maxRecDepth 100000
set_option linter.unusedVariables false
set_option linter.unusedSimpArgs false

/-! ### Scalars -/

def isScalar (c : Int) : Prop := (0 ≤ c ∧ c < 55296) ∨ (57343 < c ∧ c ≤ 1114111)

theorem F79_eq (n : Nat) (c : Int) : ∃ b, F79 n c = some b ∧ (b = true ↔ isScalar c) := by
  unfold F79 isScalar
  by_cases h0 : c ≥ 0
  · rw [decide_eq_true h0]
    by_cases h1 : c < 55296
    · rw [decide_eq_true h1]
      exact ⟨true, rfl, by simp; omega⟩
    · rw [decide_eq_false h1]
      by_cases h2 : c > 57343
      · rw [decide_eq_true h2]
        exact ⟨_, rfl, by simp; omega⟩
      · rw [decide_eq_false h2]
        exact ⟨false, rfl, by simp; omega⟩
  · rw [decide_eq_false h0]
    by_cases h2 : c > 57343
    · omega
    · rw [decide_eq_false h2]
      exact ⟨false, rfl, by simp; omega⟩

theorem F80_eq (n : Nat) (c : Int) : ∃ b, F80 n c = some b := by
  obtain ⟨b, hb, _⟩ := F79_eq n c
  unfold F80
  rw [hb]
  cases decide (c ≥ 64976) <;> cases decide (c ≤ 65007) <;> cases b <;> exact ⟨_, rfl⟩

theorem dv32 {k c : Int} (h0 : 0 ≤ k) (h1 : k ≤ 2147483647) (hc : 0 < c) : IntKind.wrap .i32 (Int.tdiv k c) = k / c := by
  rw [Int.tdiv_eq_ediv_of_nonneg h0]
  have h1 : 0 ≤ k / c := Int.ediv_nonneg h0 (by omega)
  have h2 : k / c ≤ k := Int.ediv_le_self c h0
  exact wrap32 (by omega) (by omega)

theorem F78_eq (n : Nat) (v : Int) : ∃ c, F78 n v = some c := by
  obtain ⟨k, h1, h2, h3⟩ := place (n := n) (v := v) (c := 1099511627776) (by omega) (by omega)
  have hj1 : ∀ (t4 t12 : Int) (b : Bool), 0 ≤ t4 → ∃ c, F78j1 n k t4 t12 b = some c := by
    intro t4 t12 b h4
    have i24 : inB (Int.tmod t4 24) 24 = true := by rw [md h4]; simp [inB]; omega
    have i16 : inB (Int.tmod t4 16) 16 = true := by rw [md h4]; simp [inB]; omega
    have i3 : inB (Int.tmod t4 3) 3 = true := by rw [md h4]; simp [inB]; omega
    have i8 : inB (Int.tmod t4 8) 8 = true := by rw [md h4]; simp [inB]; omega
    unfold F78j1
    rw [i24, i16, i3, i8]
    cases b
    · cases (t12 == 6)
      · cases (t12 == 7)
        · cases (t12 == 8)
          · cases (t12 == 9)
            · cases (t12 == 10)
              · cases (t12 == 11)
                · cases (t12 == 12)
                  · cases (t12 == 13)
                    · cases (t12 == 14) <;> exact ⟨_, rfl⟩
                    · exact ⟨_, rfl⟩
                  · exact ⟨_, rfl⟩
                · exact ⟨_, rfl⟩
              · exact ⟨_, rfl⟩
            · exact ⟨_, rfl⟩
          · exact ⟨_, rfl⟩
        · exact ⟨_, rfl⟩
      · exact ⟨_, rfl⟩
    · exact ⟨_, rfl⟩
  have hj0 : ∀ (t4 t12 : Int) (b : Bool), 0 ≤ t4 → ∃ c, F78j0 n k t4 t12 b = some c := by
    intro t4 t12 b h4
    have i12 : inB (Int.tmod t4 12) 12 = true := by rw [md h4]; simp [inB]; omega
    unfold F78j0
    rw [i12]
    cases b
    · cases (t12 == 2)
      · cases (t12 == 3)
        · cases (t12 == 4)
          · simp only [cond_true, cond_false]; exact hj1 _ _ _ h4
          · simp only [cond_true, cond_false]; exact hj1 _ _ _ h4
        · simp only [cond_true, cond_false]; exact hj1 _ _ _ h4
      · exact ⟨_, rfl⟩
    · exact ⟨_, rfl⟩
  have hk16 : 0 ≤ k / 16 := Int.ediv_nonneg h2 (by omega)
  have h4 : 0 ≤ IntKind.wrap .i32 (Int.tmod (IntKind.wrap .i64 (Int.tdiv k 16)) 100000) := by
    rw [dv h2 h3 (by omega), md hk16, wrap32 (by omega) (by omega)]; omega
  unfold F78
  rw [h1]
  simp only [show (!((16 : Nat) == 0)) = true from rfl, show (!((100000 : Nat) == 0)) = true from rfl, cond_true]
  cases (Int.tmod k 16 == 0)
  · simp only [cond_false, cond_true]; exact hj0 _ _ _ h4
  · simp only [cond_false, cond_true]; exact hj0 _ _ _ h4

/-- A scalar's bytes. -/
def bytesS (c : Int) : List Int :=
  if c < 128 then [c] else if c < 2048 then [192 + c / 64, 128 + c % 64] else if c < 65536 then [224 + c / 4096, 128 + c / 64 % 64, 128 + c % 64]
  else [240 + c / 262144, 128 + c / 4096 % 64, 128 + c / 64 % 64, 128 + c % 64]

theorem F87_eq (n : Nat) {c : Int} (h : isScalar c) : F87 n c = some (bytesS c) := by
  obtain ⟨b, hb, hi⟩ := F79_eq n c
  have : b = true := hi.2 h
  subst this
  have h0 : 0 ≤ c := by rcases h with h | h <;> omega
  have h9 : c ≤ 1114111 := by rcases h with h | h <;> omega
  have hd : ∀ d : Int, 0 < d → 0 ≤ c / d ∧ c / d ≤ c := fun d hd => ⟨Int.ediv_nonneg h0 (by omega), Int.ediv_le_self d h0⟩
  have h64 := hd 64 (by omega)
  have h4096 := hd 4096 (by omega)
  have h262 := hd 262144 (by omega)
  have e64 : IntKind.wrap .i32 (Int.tdiv c 64) = c / 64 := dv32 h0 (by omega) (by omega)
  have e4096 : IntKind.wrap .i32 (Int.tdiv c 4096) = c / 4096 := dv32 h0 (by omega) (by omega)
  have e262 : IntKind.wrap .i32 (Int.tdiv c 262144) = c / 262144 := dv32 h0 (by omega) (by omega)
  unfold F87 bytesS
  rw [hb]
  simp only [Bool.not_true, cond_false]
  by_cases h1 : c < 128
  · rw [decide_eq_true h1, if_pos h1, wrap8 h0 (by omega)]; rfl
  rw [decide_eq_false h1, if_neg h1, cond_false]
  by_cases h2 : c < 2048
  · rw [decide_eq_true h2, if_pos h2, e64, md h0, wrap32 (x := 192 + c / 64) (by omega) (by omega), wrap32 (x := 128 + c % 64) (by omega) (by omega), wrap8 (x := 192 + c / 64) (by omega) (by omega), wrap8 (x := 128 + c % 64) (by omega) (by omega)]; rfl
  rw [decide_eq_false h2, if_neg h2, cond_false]
  by_cases h3 : c < 65536
  · rw [decide_eq_true h3, if_pos h3, e64, e4096, md h0, md h64.1, wrap32 (x := 224 + c / 4096) (by omega) (by omega), wrap32 (x := 128 + c / 64 % 64) (by omega) (by omega), wrap32 (x := 128 + c % 64) (by omega) (by omega), wrap8 (x := 224 + c / 4096) (by omega) (by omega), wrap8 (x := 128 + c / 64 % 64) (by omega) (by omega), wrap8 (x := 128 + c % 64) (by omega) (by omega)]; rfl
  rw [decide_eq_false h3, if_neg h3, cond_false]
  rw [e64, e4096, e262, md h0, md h64.1, md h4096.1, wrap32 (x := 240 + c / 262144) (by omega) (by omega), wrap32 (x := 128 + c / 4096 % 64) (by omega) (by omega), wrap32 (x := 128 + c / 64 % 64) (by omega) (by omega), wrap32 (x := 128 + c % 64) (by omega) (by omega), wrap8 (x := 240 + c / 262144) (by omega) (by omega), wrap8 (x := 128 + c / 4096 % 64) (by omega) (by omega), wrap8 (x := 128 + c / 64 % 64) (by omega) (by omega), wrap8 (x := 128 + c % 64) (by omega) (by omega)]; rfl

theorem lng2 {x : Int} (h : 194 ≤ x ∧ x ≤ 223) : lng x = 2 := by unfold lng; rw [if_neg (by omega), if_pos h]
theorem lng3 {x : Int} (h : 224 ≤ x ∧ x ≤ 239) : lng x = 3 := by unfold lng; rw [if_neg (by omega), if_neg (by omega), if_pos h]
theorem lng4 {x : Int} (h : 240 ≤ x ∧ x ≤ 244) : lng x = 4 := by unfold lng; rw [if_neg (by omega), if_neg (by omega), if_neg (by omega), if_pos h]

theorem cont_hi {k : Nat} (hk : k ≠ 1) {f x : Int} (h : 128 ≤ x ∧ x ≤ 191) : cont k f x = true := by
  unfold cont; rw [if_neg hk]; simp [h]

theorem cont_1 {f x : Int} (hs : sec f x = true) (h : 128 ≤ x ∧ x ≤ 191) : cont 1 f x = true := by
  unfold cont; rw [if_pos rfl, hs]; simp [h]

theorem bytesS_ok {c : Int} (h : isScalar c) (r : List Int) (f : Int) : okU (bytesS c ++ r) 0 f = okU r 0 0 ∧ (∀ x ∈ bytesS c, isB x) ∧ (bytesS c).length ≤ 4 := by
  have h0 : 0 ≤ c := by rcases h with h | h <;> omega
  have h9 : c ≤ 1114111 := by rcases h with h | h <;> omega
  have h64 : 0 ≤ c / 64 := Int.ediv_nonneg h0 (by omega)
  have h4096 : 0 ≤ c / 4096 := Int.ediv_nonneg h0 (by omega)
  unfold bytesS
  by_cases h1 : c < 128
  · rw [if_pos h1]
    refine ⟨okU_low _ _ h1, fun x hx => ?_, by simp⟩
    simp at hx; subst hx; exact ⟨h0, by omega⟩
  rw [if_neg h1]
  by_cases h2 : c < 2048
  · rw [if_pos h2]
    have hl := lng2 (x := 192 + c / 64) (by omega)
    refine ⟨?_, fun x hx => ?_, by simp⟩
    · have hs : sec (192 + c / 64) (128 + c % 64) = true := by
        unfold sec
        rw [if_neg (by omega), if_neg (by omega), if_neg (by omega), if_neg (by omega)]
        simp; omega
      show okU ((192 + c / 64) :: (128 + c % 64) :: r) 0 f = _
      rw [okU_cons, if_pos rfl, hl, if_neg (by omega), if_neg (by omega), okU_cons, if_neg (by omega), if_pos (cont_1 hs (by omega)), hl, if_neg (by simp), okU_f0]
    · simp at hx
      rcases hx with rfl | rfl <;> exact ⟨by omega, by omega⟩
  rw [if_neg h2]
  by_cases h3 : c < 65536
  · rw [if_pos h3]
    have hl := lng3 (x := 224 + c / 4096) (by omega)
    refine ⟨?_, fun x hx => ?_, by simp⟩
    · have hs : sec (224 + c / 4096) (128 + c / 64 % 64) = true := by
        unfold sec
        by_cases ha : 224 + c / 4096 = 224
        · rw [if_pos ha]; simp; omega
        rw [if_neg ha]
        by_cases hb : 224 + c / 4096 = 237
        · rw [if_pos hb]; simp
          rcases h with h | h <;> omega
        rw [if_neg hb, if_neg (by omega), if_neg (by omega)]
        simp; omega
      show okU ((224 + c / 4096) :: (128 + c / 64 % 64) :: (128 + c % 64) :: r) 0 f = _
      rw [okU_cons, if_pos rfl, hl, if_neg (by omega), if_neg (by omega), okU_cons, if_neg (by omega), if_pos (cont_1 hs (by omega)), hl, if_pos (by simp), okU_cons, if_neg (by omega), if_pos (cont_hi (by omega) (by omega)), hl, if_neg (by simp), okU_f0]
    · simp at hx
      rcases hx with rfl | rfl | rfl <;> exact ⟨by omega, by omega⟩
  rw [if_neg h3]
  have hl := lng4 (x := 240 + c / 262144) (by omega)
  refine ⟨?_, fun x hx => ?_, by simp⟩
  · have hs : sec (240 + c / 262144) (128 + c / 4096 % 64) = true := by
      unfold sec
      rw [if_neg (by omega), if_neg (by omega)]
      by_cases ha : 240 + c / 262144 = 240
      · rw [if_pos ha]; simp; omega
      rw [if_neg ha]
      by_cases hb : 240 + c / 262144 = 244
      · rw [if_pos hb]; simp; omega
      rw [if_neg hb]
      simp; omega
    show okU ((240 + c / 262144) :: (128 + c / 4096 % 64) :: (128 + c / 64 % 64) :: (128 + c % 64) :: r) 0 f = _
    rw [okU_cons, if_pos rfl, hl, if_neg (by omega), if_neg (by omega), okU_cons, if_neg (by omega), if_pos (cont_1 hs (by omega)), hl, if_pos (by simp), okU_cons, if_neg (by omega), if_pos (cont_hi (by omega) (by omega)), hl, if_pos (by simp),
      okU_cons, if_neg (by omega), if_pos (cont_hi (by omega) (by omega)), hl, if_neg (by simp), okU_f0]
  · simp at hx
    rcases hx with rfl | rfl | rfl | rfl <;> exact ⟨by omega, by omega⟩

/-! ### Texts by numbers -/

theorem room1 (m : Nat) (h : m ≤ 200000) : (decide (m * 1 ≤ maxRoom) && decide (m ≤ maxRoom)) = true := by
  rw [Bool.and_eq_true, decide_eq_true_eq, decide_eq_true_eq]
  unfold maxRoom
  omega

theorem inB_LI (pre : List Int) (x : Int) (l : List Int) : inB (pre.length : Int) (pre ++ x :: l).length = true := inB_pre pre x l

def textS (l : List Int) : List Int := l.flatMap bytesS

theorem F81_loop (n : Nat) : ∀ (l pre acc : List Int) (m : Nat), (∀ c ∈ l, isScalar c) → (pre ++ l).length ≤ 10000 → acc.length ≤ 4 * pre.length → l.length + 1 ≤ m → F81l0 n m (pre ++ l) acc (pre.length : Int) = some (acc ++ textS l)
  | [], pre, acc, m, _, hl, ha, hm => by
    obtain ⟨m, rfl⟩ : ∃ j, m = j + 1 := ⟨m - 1, by simp at hm; omega⟩
    rw [F81l0, F81l0F, ge_pre]
    simp [textS]
  | c :: l, pre, acc, m, hs, hl, ha, hm => by
    obtain ⟨m, rfl⟩ : ∃ j, m = j + 1 := ⟨m - 1, by simp at hm; omega⟩
    have hc := hs c (by simp)
    obtain ⟨_, _, hb⟩ := bytesS_ok hc [] 0
    have hpl : pre.length ≤ 10000 := by simp at hl; omega
    have hr := room1 (acc.length + (bytesS c).length) (by omega)
    have ih := F81_loop n l (pre ++ [c]) (acc ++ bytesS c) m (fun x hx => hs x (by simp [hx])) (by simpa using hl) (by simp; omega) (by simp at hm; omega)
    rw [List.append_assoc, List.singleton_append] at ih
    rw [F81l0, F81l0F, lt_pre, inB_LI, getD_preI, F87_eq n hc, wrap_pre pre c (by omega)]
    simp only [cond_true, hr]
    rw [ih]
    simp [textS]

theorem F81_eq (n : Nat) (l : List Int) (h : ∀ c ∈ l, isScalar c) (hl : l.length ≤ 10000) (hn : l.length + 1 ≤ n) : F81 n l = some (textS l) := by
  have := F81_loop n l [] [] n h (by simpa using hl) (by simp) hn
  exact this

theorem textS_ok : ∀ (l : List Int), (∀ c ∈ l, isScalar c) → okU (textS l) 0 0 = true ∧ (∀ x ∈ textS l, isB x) ∧ (textS l).length ≤ 4 * l.length
  | [], _ => ⟨rfl, by simp [textS], by simp [textS]⟩
  | c :: l, h => by
    obtain ⟨a, b, d⟩ := textS_ok l fun x hx => h x (by simp [hx])
    obtain ⟨e, f, g⟩ := bytesS_ok (h c (by simp)) (textS l) 0
    have e1 : textS (c :: l) = bytesS c ++ textS l := rfl
    rw [e1]
    refine ⟨by rw [e, a], fun x hx => ?_, by simp; omega⟩
    rcases List.mem_append.1 hx with hx | hx
    · exact f x hx
    · exact b x hx

theorem bytes_strOf : ∀ (l : List Int), (∀ x ∈ l, isB x) → bytesOf (strOf l) = l
  | [], _ => rfl
  | x :: l, h => by
    have hx := h x (by simp)
    have ih := bytes_strOf l fun y hy => h y (by simp [hy])
    unfold bytesOf strOf at *
    rw [List.map_cons, List.map_cons, ih]
    congr 1
    have := hx.1; have := hx.2
    simp
    omega

theorem F64_loop (n : Nat) (hn : 100 ≤ n) (t0 : List Int) : ∀ (j : Nat) (i : Nat) (acc : List Int) (m : Nat), j + i = 20 → acc.length ≤ i → (∀ c ∈ acc, isScalar c) → j + 1 ≤ m → ∃ s, F64l0 n m t0 acc (i : Int) = some s ∧ okU (bytesOf s) 0 0 = true ∧ s.length ≤ 80 := by
  have fin : ∀ acc : List Int, acc.length ≤ 20 → (∀ c ∈ acc, isScalar c) → ∃ s, (match F81 n acc with | some r => some (strOf r) | none => none) = some s ∧ okU (bytesOf s) 0 0 = true ∧ s.length ≤ 80 := by
    intro acc hl hs
    obtain ⟨a, b, c⟩ := textS_ok acc hs
    rw [F81_eq n acc hs (by omega) (by omega)]
    refine ⟨_, rfl, by rw [bytes_strOf _ b]; exact a, ?_⟩
    simp [strOf]; omega
  intro j
  induction j with
  | zero =>
    intro i acc m h1 h2 h3 hm
    obtain ⟨m, rfl⟩ : ∃ j, m = j + 1 := ⟨m - 1, by omega⟩
    rw [F64l0, F64l0F, decide_eq_false (show ¬ ((i : Int) < 20) by omega)]
    by_cases hi : (i : Int) < ((t0.length : Nat) : Int)
    · rw [decide_eq_true hi]; exact fin acc (by omega) h3
    · rw [decide_eq_false hi]; exact fin acc (by omega) h3
  | succ j ih =>
    intro i acc m h1 h2 h3 hm
    obtain ⟨m, rfl⟩ : ∃ j, m = j + 1 := ⟨m - 1, by omega⟩
    rw [F64l0, F64l0F, decide_eq_true (show ((i : Int) < 20) by omega)]
    by_cases hi : (i : Int) < ((t0.length : Nat) : Int)
    · obtain ⟨c, hc⟩ := F78_eq n (t0.getD (Int.toNat (i : Int)) (Ty.dflt (.int .i64)))
      obtain ⟨b, hb, hbs⟩ := F79_eq n c
      obtain ⟨b2, hb2⟩ := F80_eq n c
      have hin : inB (i : Int) t0.length = true := by simp [inB]; omega
      have hw : IntKind.wrap .i64 ((i : Int) + 1) = ((i + 1 : Nat) : Int) := by rw [wrap64 (by omega) (by omega)]; simp
      have hr := room4 (acc.length + ([c] : List Int).length) (by simp; omega)
      rw [decide_eq_true hi, hin, hc]
      simp only [cond_true, hb, hb2, hw, hr]
      cases b with
      | false => exact ih (i + 1) acc m (by omega) (by omega) h3 (by omega)
      | true =>
        cases b2 with
        | true => exact ih (i + 1) acc m (by omega) (by omega) h3 (by omega)
        | false =>
          refine ih (i + 1) (acc ++ [c]) m (by omega) (by simp; omega) (fun x hx => ?_) (by omega)
          rcases List.mem_append.1 hx with hx | hx
          · exact h3 x hx
          · simp at hx; subst hx; exact hbs.1 rfl
    · rw [decide_eq_false hi]; exact fin acc (by omega) h3

theorem F64_eq (n : Nat) (hn : 100 ≤ n) (t0 : List Int) : ∃ s, F64 n t0 = some s ∧ okU (bytesOf s) 0 0 = true ∧ s.length ≤ 80 :=
  F64_loop n hn t0 20 0 [] n (by omega) (by simp) (by simp) (by omega)

theorem F65_eq (n : Nat) (l : List Int) (i k : Int) (h0 : 0 ≤ i) (h1 : i ≤ 1000000000) (h2 : 0 ≤ k) (h3 : k ≤ 100) : ∃ r, F65 n l i k = some r := by
  unfold F65
  by_cases h : i ≥ (l.length : Int)
  · rw [decide_eq_true h]; exact ⟨_, rfl⟩
  · rw [decide_eq_false h, wrap64 (x := i + k) (by omega) (by omega)]
    have : cutB i (if (l.length : Int) < i + k then (l.length : Int) else i + k) l.length = true := by
      unfold cutB
      split <;> simp <;> omega
    rw [this]
    exact ⟨_, rfl⟩

/-! ### Values by numbers -/

def costV : Nat → Int
  | 0 => 5
  | d + 1 => 5 + 4 * costV d

theorem costV_pos : ∀ d, 5 ≤ costV d
  | 0 => by simp [costV]
  | d + 1 => by have := costV_pos d; simp only [costV]; omega

def letter (q : Int) (j : Nat) : UInt8 := UInt8.ofNat (97 + (7 * (j : Int) + q) % 26).toNat

theorem letter_low (q : Int) (j : Nat) : (letter q j).toNat < 128 := by
  unfold letter
  rw [UInt8.toNat_ofNat']
  omega

theorem letter_inj {q : Int} {a b : Nat} (ha : a < 4) (hb : b < 4) (h : letter q a = letter q b) : a = b := by
  have := congrArg UInt8.toNat h
  unfold letter at this
  rw [UInt8.toNat_ofNat', UInt8.toNat_ofNat'] at this
  omega

/-- Names so far. -/
def NmV (q : Int) (ns : List (List UInt8)) (i : Nat) : Prop := ns.length = i ∧ (∀ (j : Nat) x, ns[j]? = some x → x.head? = some (letter q j)) ∧ ∀ x ∈ ns, okN x = true

theorem NmV.nodup {q : Int} {ns : List (List UInt8)} {i : Nat} (h : NmV q ns i) (hi : i ≤ 4) : ns.Nodup := by
  obtain ⟨h1, h2, _⟩ := h
  refine List.pairwise_iff_getElem.2 fun a b ha hb hab e => ?_
  have e1 := h2 a _ (List.getElem?_eq_getElem ha)
  have e2 := h2 b _ (List.getElem?_eq_getElem hb)
  rw [e, e2] at e1
  have := letter_inj (by omega) (by omega) (Option.some.inj e1)
  omega

theorem NmV.snoc {q : Int} {ns : List (List UInt8)} {i : Nat} (h : NmV q ns i) {s : List UInt8} (hs : okU (bytesOf s) 0 0 = true) (hs2 : s.length ≤ 80) : NmV q (ns ++ [letter q i :: s]) (i + 1) := by
  obtain ⟨h1, h2, h3⟩ := h
  refine ⟨by simp [h1], fun j x hx => ?_, fun x hx => ?_⟩
  · rcases Nat.lt_or_ge j ns.length with hj | hj
    · rw [List.getElem?_append_left hj] at hx; exact h2 j x hx
    · rw [List.getElem?_append_right hj] at hx
      have hj0 : j = i := by
        have := (List.getElem?_eq_some_iff.1 hx).1
        simp at this; omega
      subst hj0
      rw [show j - ns.length = 0 by omega] at hx
      simp at hx; subst hx; rfl
  · rcases List.mem_append.1 hx with hx | hx
    · exact h3 x hx
    · simp at hx; subst hx
      unfold okN
      rw [bytesOf_cons, okU_low _ _ (by have := letter_low q i; omega), hs]
      simp; omega

theorem letter_eq {k : Int} (hk0 : 0 ≤ k) (hk1 : k < 1099511627776) {i : Nat} (hi : i ≤ 4) :
    strOf ([(IntKind.wrap .u8 ((IntKind.wrap .i64 (97 + (Int.tmod (IntKind.wrap .i64 ((IntKind.wrap .i64 ((i : Int) * 7)) + (IntKind.wrap .i64 (Int.tdiv k 40)))) 26)))))] : List Int) = [letter (k / 40) i] := by
  have h40 : 0 ≤ k / 40 := Int.ediv_nonneg hk0 (by omega)
  have h40' : k / 40 ≤ k := Int.ediv_le_self _ hk0
  rw [dv hk0 hk1 (by omega), wrap64 (x := (i : Int) * 7) (by omega) (by omega), wrap64 (x := (i : Int) * 7 + k / 40) (by omega) (by omega), md (by omega), wrap64 (by omega) (by omega), wrap8 (by omega) (by omega)]
  rw [Int.mul_comm]
  rfl

theorem value_loop {self : List Int → Int → Int → Option (V × Int)} {n d : Nat} (hn : 100 ≤ n) {l : List Int} {t2 k : Int} {kind : Int} {B c : Int} (hcp : 1 ≤ c) (hk0 : 0 ≤ k) (hk1 : k < 1099511627776) (ht : 1 ≤ t2) (ht2 : t2 ≤ 100) (hB : B ≤ 1000000000)
    (hkind : kind = 6 ∨ kind = 5) (hs : ∀ a, 0 ≤ a → a ≤ B → ∃ v a', self l a (t2 - 1) = some (v, a') ∧ GV d v ∧ a ≤ a' ∧ a' ≤ a + c) {x0 x2 : Int} {x1 : Bool} {x3 : List UInt8} {x4 : List (List UInt8)} {x5 : List V} {cnt : Nat} (hcnt : cnt ≤ 4) :
    ∀ (j i m : Nat) (at_ : Int) (ns : List (List UInt8)) (ks : List V), i + j = cnt → j < m → 0 ≤ at_ → at_ + (j : Int) * c ≤ B → ks.length = i → (∀ v ∈ ks, GV d v) → (if kind = 6 then NmV (k / 40) ns i else ns = []) →
      ∃ v a', F51l4 self n m l at_ t2 k (cnt : Int) (i : Int) x0 x1 x2 x3 x4 x5 kind false 0 [] ns ks = some (v, a') ∧ GV (d + 1) v ∧ at_ ≤ a' ∧ a' ≤ at_ + (j : Int) * c := by
  intro j
  induction j with
  | zero =>
    intro i m at_ ns ks q1 q2 q3 q4 q5 q6 q7
    obtain ⟨m, rfl⟩ : ∃ q, m = q + 1 := ⟨m - 1, by omega⟩
    simp only [F51l4, F51l4F]
    rw [decide_eq_false (by omega)]
    refine ⟨_, _, rfl, ?_, by omega, by omega⟩
    refine ⟨?_, fun _ => ?_, ?_, ?_, ?_, ?_, q6⟩
    · simp only; rcases hkind with rfl | rfl <;> simp
    · simp only; rcases hkind with rfl | rfl <;> simp
    · simp only; omega
    · simp only
      split at q7
      · have := q7.1; omega
      · rw [q7]; simp
    · intro h6
      simp only at h6
      rw [if_pos h6] at q7
      exact ⟨by simp only [q7.1, q5], q7.nodup (by omega), q7.2.2⟩
    · intro h5
      simp only at h5
      rw [if_neg (by omega)] at q7
      exact q7
  | succ j ih =>
    intro i m at_ ns ks q1 q2 q3 q4 q5 q6 q7
    obtain ⟨m, rfl⟩ : ∃ q, m = q + 1 := ⟨m - 1, by omega⟩
    have hmul : ((j + 1 : Nat) : Int) * c = (j : Int) * c + c := by rw [Int.natCast_add, Int.add_mul]; simp
    have hjc : 0 ≤ (j : Int) * c := Int.mul_nonneg (by omega) (by omega)
    rw [hmul] at q4 ⊢
    obtain ⟨v, a1, e1, e2, e3, e4⟩ := hs at_ q3 (by omega)
    simp only [F51l4, F51l4F]
    rw [decide_eq_true (by omega), wrap64 (x := t2 - 1) (by omega) (by omega), e1]
    have hb : (decide ((ks.length + [v].length) * 88 ≤ maxRoom) && decide (ks.length + [v].length ≤ maxRoom)) = true := by
      rw [Bool.and_eq_true, decide_eq_true_eq, decide_eq_true_eq]; simp only [maxRoom, List.length_singleton]; omega
    have hi1 : IntKind.wrap .i64 ((i : Int) + 1) = ((i + 1 : Nat) : Int) := by rw [wrap64 (by omega) (by omega)]; omega
    have hcl : ∀ u ∈ ks ++ [v], GV d u := by
      intro u hu
      rcases List.mem_append.1 hu with hu | hu
      · exact q6 u hu
      · rw [List.mem_singleton] at hu; exact hu ▸ e2
    rcases hkind with rfl | rfl
    · rw [if_pos rfl] at q7
      have h1040 : 0 ≤ k / 1040 := Int.ediv_nonneg hk0 (by omega)
      have hcn : IntKind.wrap .i64 (1 + Int.tmod (IntKind.wrap .i64 (Int.tdiv k 1040)) 3) = 1 + k / 1040 % 3 := by
        rw [dv hk0 hk1 (by omega), md h1040, wrap64 (by omega) (by omega)]
      obtain ⟨r, hr⟩ := F65_eq n l at_ (1 + k / 1040 % 3) q3 (by omega) (by omega) (by omega)
      obtain ⟨s, hs1, hs2, hs3⟩ := F64_eq n hn r
      have hle := letter_eq hk0 hk1 (i := i) (by omega)
      have hnl := q7.1
      have hr16 := room16 (ns.length + ([letter (k / 40) i :: s] : List (List UInt8)).length) (by simp; omega)
      have hcat : decide (([letter (k / 40) i] : List UInt8).length + s.length ≤ 9223372036854775807) = true := decide_eq_true (by simp; omega)
      obtain ⟨u, a2, f1, f2, f3, f4⟩ := ih (i + 1) m a1 (ns ++ [letter (k / 40) i :: s]) (ks ++ [v]) (by omega) (by omega) (by omega) (by omega) (by simp [q5]) hcl (by rw [if_pos rfl]; exact q7.snoc hs2 hs3)
      refine ⟨u, a2, ?_, f2, by omega, by omega⟩
      rw [← f1]
      have hcell : ([letter (k / 40) i] ++ s : List UInt8) = letter (k / 40) i :: s := rfl
      simp only [hcn, hr, hs1, hle, hcat, hcell, hr16, V.eta, hb, hi1, cond_true, show ((6 : Int) == 6) = true from rfl, show (!((40 : Nat) == 0)) = true from rfl, show (!((26 : Nat) == 0)) = true from rfl, show (!((1040 : Nat) == 0)) = true from rfl, show (!((3 : Nat) == 0)) = true from rfl]
    · rw [if_neg (by decide)] at q7
      obtain ⟨u, a2, f1, f2, f3, f4⟩ := ih (i + 1) m a1 ns (ks ++ [v]) (by omega) (by omega) (by omega) (by omega) (by simp [q5]) hcl (by rw [if_neg (by decide)]; exact q7)
      refine ⟨u, a2, ?_, f2, by omega, by omega⟩
      rw [← f1]
      simp only [V.eta, hb, hi1, cond_true, cond_false, show ((5 : Int) == 6) = false from rfl]

theorem value_node {self : List Int → Int → Int → Option (V × Int)} {n d : Nat} (hn : 100 ≤ n) {l : List Int} {t1 t2 k t9 : Int} {B : Int} (hk0 : 0 ≤ k) (hk1 : k < 1099511627776) (ht : t2 = (d : Int)) (ht2 : d ≤ 99)
    (h1 : 0 ≤ t1) (hB : t1 + costV d ≤ B + 1) (hB2 : B ≤ 1000000000) (h90 : 0 ≤ t9) (h9 : d = 0 → t9 < 5) (hs : ∀ e, d = e + 1 → ∀ a, 0 ≤ a → a ≤ B → ∃ v a', self l a (t2 - 1) = some (v, a') ∧ GV (e + 1) v ∧ a ≤ a' ∧ a' ≤ a + costV e) {x0 x2 : Int} {x1 : Bool} {x3 : List UInt8} {x4 : List (List UInt8)} {x5 : List V} :
    ∃ v a', F51j1 self n l t1 t2 k t9 x0 x1 x2 x3 x4 x5 = some (v, a') ∧ GV (d + 1) v ∧ t1 ≤ a' ∧ a' + 1 ≤ t1 + costV d := by
  have hcp := costV_pos d
  have hk8 : 0 ≤ k / 8 := Int.ediv_nonneg hk0 (by omega)
  have c5 : Int.tmod (IntKind.wrap .i64 (Int.tdiv k 8)) 5 = k / 8 % 5 := by rw [dv hk0 hk1 (by omega), md hk8]
  have i8 : inB (Int.tmod (IntKind.wrap .i64 (Int.tdiv k 8)) 8) 8 = true := by rw [dv hk0 hk1 (by omega), md hk8]; simp [inB]; omega
  unfold F51j1
  simp only [show (!((8 : Nat) == 0)) = true from rfl, show (!((5 : Nat) == 0)) = true from rfl, show (!((2 : Nat) == 0)) = true from rfl, cond_true]
  by_cases e0 : t9 = 0
  · rw [e0]; exact ⟨_, _, rfl, leaf_good d (by omega), by omega, by omega⟩
  rw [show (t9 == 0) = false by rw [beq_eq_false_iff_ne]; exact e0, cond_false]
  by_cases e1 : t9 = 1
  · rw [e1]; exact ⟨_, _, rfl, leaf_good d (by omega), by omega, by omega⟩
  rw [show (t9 == 1) = false by rw [beq_eq_false_iff_ne]; exact e1, cond_false, c5]
  have intL : ∀ t46 : Int, ∃ v a', F51j5 self n l t1 t2 k t9 (k / 8 % 5) t46 true x0 x1 x2 x3 x4 x5 = some (v, a') ∧ GV (d + 1) v ∧ t1 ≤ a' ∧ a' + 1 ≤ t1 + costV d := by
    intro t46
    unfold F51j5
    rw [i8]
    exact ⟨_, _, rfl, leaf_good d (by omega), by omega, by omega⟩
  by_cases e2 : t9 = 2
  · rw [e2]
    have := intL 2
    rw [e2] at this
    exact this
  rw [show (t9 == 2) = false by rw [beq_eq_false_iff_ne]; exact e2, cond_false]
  by_cases e3 : t9 = 3
  · rw [e3]
    have := intL 3
    rw [e3] at this
    exact this
  rw [show (t9 == 3) = false by rw [beq_eq_false_iff_ne]; exact e3]
  unfold F51j5
  rw [cond_false]
  by_cases e4 : t9 = 4
  · rw [e4, show ((4 : Int) == 4) = true from rfl, cond_true]
    obtain ⟨r, hr⟩ := F65_eq n l t1 (k / 8 % 5) h1 (by omega) (by omega) (by omega)
    obtain ⟨s, hs1, hs2, hs3⟩ := F64_eq n hn r
    rw [hr]
    simp only [hs1]
    rw [wrap64 (x := t1 + k / 8 % 5) (by omega) (by omega)]
    exact ⟨_, _, rfl, leaf_good d (by omega), by omega, by omega⟩
  rw [show (t9 == 4) = false by rw [beq_eq_false_iff_ne]; exact e4, cond_false]
  obtain ⟨e, rfl⟩ : ∃ e, d = e + 1 := ⟨d - 1, by
    have : d ≠ 0 := fun h => by have := h9 h; omega
    omega⟩
  obtain ⟨cnt, hcnt⟩ : ∃ cnt : Nat, (cnt : Int) = k / 8 % 5 := ⟨(k / 8 % 5).toNat, by omega⟩
  have hce : costV (e + 1) = 5 + 4 * costV e := rfl
  have hcpe := costV_pos e
  have hcost : (cnt : Int) * costV e ≤ 4 * costV e := Int.mul_le_mul_of_nonneg_right (by omega) (by omega)
  have node : ∀ kind : Int, kind = 6 ∨ kind = 5 → ∃ v a', F51j3 self n l t1 t2 k (k / 8 % 5) x0 x1 x2 x3 x4 x5 kind false 0 [] [] [] = some (v, a') ∧ GV (e + 1 + 1) v ∧ t1 ≤ a' ∧ a' + 1 ≤ t1 + costV (e + 1) := by
    intro kind hkind
    unfold F51j3
    rw [← hcnt]
    obtain ⟨v, a', f1, f2, f3, f4⟩ := value_loop (d := e + 1) (B := B) hn (c := costV e) (by omega) (x0 := x0) (x1 := x1) (x2 := x2) (x3 := x3) (x4 := x4) (x5 := x5) hk0 hk1 (show 1 ≤ t2 by omega) (by omega) hB2 hkind (hs e rfl) (show cnt ≤ 4 by omega) cnt 0 n t1 [] [] (by omega) (by omega) (by omega) (by omega) rfl (by simp)
      (by split; exact ⟨rfl, fun j x hx => by simp at hx, by simp⟩; rfl)
    exact ⟨v, a', f1, f2, by omega, by omega⟩
  unfold F51j2
  cases decide (t9 ≥ 6)
  · exact node 5 (.inr rfl)
  · exact node 6 (.inl rfl)

theorem value_good : ∀ (d : Nat) (l : List Int) (a : Int) (n : Nat), 0 ≤ a → a + 2 * costV d ≤ 100000000 → d ≤ 99 → d + 101 ≤ n → ∃ v a', F51 n l a (d : Int) = some (v, a') ∧ GV (d + 1) v ∧ a ≤ a' ∧ a' ≤ a + costV d := by
  intro d
  induction d with
  | zero =>
    intro l a n h1 h2 h3 h5
    obtain ⟨n, rfl⟩ : ∃ q, n = q + 1 := ⟨n - 1, by omega⟩
    simp only [F51, F51B]
    have hc0 : costV 0 = 5 := rfl
    have key : ∀ k, 0 ≤ k → k < 1099511627776 → ∃ v a', F51j0 (F51 n) n l a ((0 : Nat) : Int) k 0 false 0 [] [] [] = some (v, a') ∧ GV (0 + 1) v ∧ a ≤ a' ∧ a' ≤ a + costV 0 := by
      intro k hk0 hk1
      have node : ∀ t9 : Int, 0 ≤ t9 → t9 < 5 → ∃ v a', F51j1 (F51 n) n l (a + 1) ((0 : Nat) : Int) k t9 0 false 0 [] [] [] = some (v, a') ∧ GV (0 + 1) v ∧ a ≤ a' ∧ a' ≤ a + costV 0 := by
        intro t9 h90 h95
        obtain ⟨v, a', f1, f2, f3, f4⟩ := value_node (self := F51 n) (n := n) (d := 0) (by omega) (l := l) (t1 := a + 1) (t2 := ((0 : Nat) : Int)) (k := k) (t9 := t9) (B := 100000000) hk0 hk1 rfl (by omega) (by omega) (by omega) (by omega) h90 (fun _ => h95) (fun e he => by omega) (x0 := 0) (x1 := false) (x2 := 0) (x3 := []) (x4 := []) (x5 := [])
        exact ⟨v, a', f1, f2, by omega, by omega⟩
      unfold F51j0
      rw [wrap64 (x := a + 1) (by omega) (by omega), md hk0, md (show 0 ≤ k % 8 by omega)]
      simp only [show (!((8 : Nat) == 0)) = true from rfl, show (!((5 : Nat) == 0)) = true from rfl, show ((((0 : Nat) : Int)) == 0) = true from rfl, cond_true]
      by_cases h5 : k % 8 ≥ 5
      · rw [decide_eq_true h5]; exact node _ (by omega) (by omega)
      · rw [decide_eq_false h5]
        cases decide (a + 1 > (l.length : Int))
        · exact node _ (by omega) (by omega)
        · exact node _ (by omega) (by omega)
    by_cases hlt : a < (l.length : Int)
    · rw [decide_eq_true hlt, show inB a l.length = true by simp [inB]; omega]
      obtain ⟨k, hk, k0, k1⟩ := place (n := n) (v := l.getD (Int.toNat a) (Ty.dflt (.int .i64))) (c := 1099511627776) (by omega) (by omega)
      simp only [cond_true, hk]
      exact key k k0 k1
    · rw [decide_eq_false hlt]
      exact key 0 (by omega) (by omega)
  | succ d ih =>
    intro l a n h1 h2 h3 h5
    obtain ⟨n, rfl⟩ : ∃ q, n = q + 1 := ⟨n - 1, by omega⟩
    simp only [F51, F51B]
    have hc : costV (d + 1) = 5 + 4 * costV d := rfl
    have hcp := costV_pos d
    have key : ∀ k, 0 ≤ k → k < 1099511627776 → ∃ v a', F51j0 (F51 n) n l a ((d + 1 : Nat) : Int) k 0 false 0 [] [] [] = some (v, a') ∧ GV (d + 1 + 1) v ∧ a ≤ a' ∧ a' ≤ a + costV (d + 1) := by
      intro k hk0 hk1
      have node : ∀ t9 : Int, 0 ≤ t9 → ∃ v a', F51j1 (F51 n) n l (a + 1) ((d + 1 : Nat) : Int) k t9 0 false 0 [] [] [] = some (v, a') ∧ GV (d + 1 + 1) v ∧ a ≤ a' ∧ a' ≤ a + costV (d + 1) := by
        intro t9 h90
        obtain ⟨v, a', f1, f2, f3, f4⟩ := value_node (self := F51 n) (n := n) (d := d + 1) (by omega) (l := l) (t1 := a + 1) (t2 := ((d + 1 : Nat) : Int)) (k := k) (t9 := t9) (B := a + costV (d + 1)) hk0 hk1 rfl (by omega) (by omega) (by omega) (by omega) h90 (fun h => by omega) (fun e he b hb0 hb1 => by
          obtain rfl : d = e := by omega
          have := ih l b n hb0 (by omega) (by omega) (by omega)
          rw [show (((d + 1 : Nat) : Int) - 1) = (d : Int) by omega]
          exact this) (x0 := 0) (x1 := false) (x2 := 0) (x3 := []) (x4 := []) (x5 := [])
        exact ⟨v, a', f1, f2, by omega, by omega⟩
      unfold F51j0
      rw [wrap64 (x := a + 1) (by omega) (by omega), md hk0, md (show 0 ≤ k % 8 by omega)]
      have ed : ((((d + 1 : Nat) : Int)) == 0) = false := by rw [beq_eq_false_iff_ne]; omega
      simp only [show (!((8 : Nat) == 0)) = true from rfl, show (!((5 : Nat) == 0)) = true from rfl, ed, cond_true, cond_false]
      cases decide (a + 1 > (l.length : Int))
      · exact node _ (by omega)
      · exact node _ (by omega)
    by_cases hlt : a < (l.length : Int)
    · rw [decide_eq_true hlt, show inB a l.length = true by simp [inB]; omega]
      obtain ⟨k, hk, k0, k1⟩ := place (n := n) (v := l.getD (Int.toNat a) (Ty.dflt (.int .i64))) (c := 1099511627776) (by omega) (by omega)
      simp only [cond_true, hk]
      exact key k k0 k1
    · rw [decide_eq_false hlt]
      exact key 0 (by omega) (by omega)

theorem Value_good (n : Nat) (hn : 200 ≤ n) (zs : List Int) : ∃ v, F30 n zs = some v ∧ GV 5 v := by
  obtain ⟨v, a, h1, h2, _⟩ := value_good 4 zs 0 n (by omega) (by simp [costV]) (by omega) (by omega)
  refine ⟨v, ?_, h2⟩
  have h1' : F51 n zs 0 4 = some (v, a) := h1
  unfold F30
  rw [h1']
  simp only [V.eta]

end Go.Proofs.YtaeamjhgfhcjdaaDoor.Ab.Pt

/- The law PointerPaths. -/
namespace Go.Proofs.YtaeamjhgfhcjdaaDoor.Ab.Pt
open Go Go.RowKit Go.Proofs.YtaeamjhgfhcjdaaDoor.Ab Go.Proofs.YtaeamjhgfhcjdaaDoor.Ab.Ar
set_option maxRecDepth 100000
set_option linter.unusedVariables false
set_option linter.unusedSimpArgs false

section
variable {ds : List Dt} {ps : List Int}

/-- Kids rise. -/
theorem K_sorted {q : Int} : ∀ (m a : Nat), ps.length - a = m → (K ps q a).Pairwise (· < ·)
  | 0, a, h => by rw [K_ge (by omega)]; exact List.Pairwise.nil
  | m + 1, a, h => by
    have ha : a < ps.length := by omega
    rw [K_step ha]
    have ih := K_sorted (q := q) m (a + 1) (by omega)
    split
    · refine List.Pairwise.cons (fun j hj => ?_) ih
      have := (mem_K'.1 hj).1
      omega
    · exact ih

theorem kid_split {i q : Nat} (h : parOf ps i = (q : Int)) (hi : i < ps.length) : ∃ a b, K ps (q : Int) 0 = a ++ i :: b ∧ i ∉ a ∧ i ∉ b := by
  have hm : i ∈ K ps (q : Int) 0 := mem_K'.2 ⟨Nat.zero_le _, by rw [parOf_lt hi, h]⟩
  obtain ⟨a, b, e⟩ := List.append_of_mem hm
  have hs := K_sorted (ps := ps) (q := (q : Int)) _ 0 rfl
  rw [e] at hs
  obtain ⟨_, h2, h3⟩ := List.pairwise_append.1 hs
  have h4 := (List.pairwise_cons.1 h2).1
  exact ⟨a, b, e, fun hh => by have := h3 i hh i (by simp); omega, fun hh => by have := h4 i hh; omega⟩

/-- The token that leads to a node from its parent. -/
def tokS (ds : List Dt) (q : Nat) (i : Nat) (a : List Nat) : List UInt8 := if (dtOf ds q).1 = 5 then pr (a.length : Int) else nm ds i

theorem K_le (a b : List Nat) {i q : Nat} (h : Ok ds ps) (e : K ps (q : Int) 0 = a ++ i :: b) : a.length ≤ 400 := by
  have h1 := K_len (ps := ps) (q := (q : Int)) (a := 0) rfl
  rw [e] at h1
  have := h.le
  simp at h1; omega

theorem step_tok (h : TreeOK ds ps) {i q : Nat} (hi : i < ps.length) (hq : parOf ps i = (q : Int)) {a b : List Nat} (e : K ps (q : Int) 0 = a ++ i :: b) (ha : i ∉ a) : stepS ds ps q (tokS ds q i a) = (i : Int) := by
  have hal := K_le a b h.ok e
  unfold stepS tokS
  rcases h.opn i q hi hq with h5 | h6
  · have hi := idx_pr (a.length : Int)
    rw [if_pos ⟨by omega, by omega⟩] at hi
    rw [if_neg (by rw [h5]; decide), if_pos h5, if_pos h5, hi, e]
    have hc : (((a.length : Int), true) : Int × Bool).2 = true ∧ (((a.length : Int), true) : Int × Bool).1 < (((a ++ i :: b).length : Nat) : Int) := ⟨rfl, by simp; omega⟩
    rw [if_pos hc]
    simp [ints]
  · rw [if_pos h6, if_neg (by rw [h6]; decide), e]
    unfold findN
    have hno : ∀ x ∈ ints a, hit (build ds ps) (nm ds i) x = false := by
      intro x hx
      obtain ⟨j, rfl, hj⟩ := mem_ints hx
      have hjk : j ∈ K ps (q : Int) 0 := by rw [e]; simp [hj]
      obtain ⟨h1, h2⟩ := kid_lt hjk
      rw [hit_eq h1, beq_eq_false_iff_ne]
      exact h.uni j i q h1 hi (fun e => ha (e ▸ hj)) h2 hq h6
    have e1 : (ints a).find? (hit (build ds ps) (nm ds i)) = none := by
      rw [List.find?_eq_none]
      intro x hx
      rw [hno x hx]; simp
    have e2 : hit (build ds ps) (nm ds i) (i : Int) = true := by rw [hit_eq hi]; simp
    have e3 : ints (a ++ i :: b) = ints a ++ (i : Int) :: ints b := by simp [ints]
    rw [e3, List.find?_append, e1, List.find?_cons, e2]
    rfl

/-- The tokens that lead to a node. -/
theorem path_good (h : TreeOK ds ps) {i d : Nat} (hd : Dep ps i d) : i < ps.length → ∃ way : List (List UInt8), way.length = d ∧ evalS ds ps 0 way 0 = ((i : Int), ((way.length : Nat) : Int)) ∧ (∀ x ∈ way, okN x = true) ∧
    ∀ (n m k : Nat) (out : List (List UInt8)), 1000 ≤ n → d + 1 ≤ m → k + d ≤ 19 → out.length ≤ k → F33l0 n m (A1 ds ps) (i : Int) out (k : Int) = some (way ++ out) := by
  induction hd with
  | @root i h0 =>
    intro hi
    have : i = 0 := by
      rcases parOf_range h.ok hi with ⟨h1, _⟩ | ⟨q, h1, _⟩
      · exact h1
      · omega
    subst this
    refine ⟨[], rfl, rfl, by simp, fun n m k out hn hm hk ho => ?_⟩
    obtain ⟨m, rfl⟩ : ∃ j, m = j + 1 := ⟨m - 1, by omega⟩
    rw [F33l0, F33l0F, decide_eq_true (show (k : Int) < 20 by omega), par_in n hi, h0]
    rfl
  | @step i q d h0 hdq ih =>
    intro hi
    have hql : q < ps.length := by
      rcases parOf_range h.ok hi with ⟨_, h1⟩ | ⟨q', h1, h2⟩
      · rw [h1] at h0; omega
      · rw [h1] at h0; omega
    obtain ⟨way, w1, w2, w3, w4⟩ := ih hql
    obtain ⟨a, b, e, ha, hb⟩ := kid_split h0 hi
    have hal := K_le a b h.ok e
    have hst := step_tok h hi h0 e ha
    have hok : okN (tokS ds q i a) = true := by
      unfold tokS
      split
      · unfold okN
        have hlow : ∀ l : List UInt8, l.all isD = true → okU (bytesOf l) 0 0 = true := by
          intro l
          induction l with
          | nil => intro _; rfl
          | cons x l ihl =>
            intro hl
            simp only [List.all_cons, Bool.and_eq_true] at hl
            have := isD_iff.1 hl.1
            rw [bytesOf_cons, okU_low _ _ (by omega)]
            exact ihl hl.2
        have hp : pr (a.length : Int) = dg a.length := by unfold pr; rw [if_pos (by omega)]; rfl
        have hl := pr_len (a.length : Int) (by omega) (by omega)
        rw [hp] at hl ⊢
        rw [hlow _ (dg_all _)]
        simp; omega
      · exact h.val i hi
    refine ⟨way ++ [tokS ds q i a], by simp [w1], ?_, ?_, ?_⟩
    · rw [eval_app 0 [tokS ds q i a] way 0 0 q (by rw [Nat.zero_add]; exact w2), evalS, hst, if_neg (by omega), Int.toNat_natCast, evalS]
      simp
    · intro x hx
      rcases List.mem_append.1 hx with hx | hx
      · exact w3 x hx
      · simp at hx; subst hx; exact hok
    · intro n m k out hn hm hk ho
      obtain ⟨m, rfl⟩ : ∃ j, m = j + 1 := ⟨m - 1, by omega⟩
      have hw : IntKind.wrap .i64 ((k : Int) + 1) = ((k + 1 : Nat) : Int) := by rw [wrap64 (by omega) (by omega)]; simp
      have hr : ∀ s : List UInt8, (decide (((([s] : List (List UInt8))).length + (out).length) * 16 ≤ maxRoom) && decide ((([s] : List (List UInt8))).length + (out).length ≤ maxRoom)) = true := fun s => room16 _ (by simp; omega)
      have fin : F33l0 n m (A1 ds ps) (q : Int) ([tokS ds q i a] ++ out) ((k + 1 : Nat) : Int) = some (way ++ [tokS ds q i a] ++ out) := by
        rw [w4 n m (k + 1) ([tokS ds q i a] ++ out) hn (by omega) (by omega) (by simp; omega), List.append_assoc]
      rw [F33l0, F33l0F, decide_eq_true (show (k : Int) < 20 by omega), par_in n hi, h0]
      simp only [cond_true]
      rw [decide_eq_true (show (q : Int) ≥ 0 by omega)]
      simp only [cond_true, (node_in n hi).1, (node_in n hql).1, Ar.kids_in n h.ok hn hql]
      have hkind : (node ds ps q).1.1 = (dtOf ds q).1 := rfl
      have hname : (node ds ps i).1.2.2.2.2.1 = nm ds i := rfl
      rw [hkind, hname]
      -- the loop over the kids
      have hlen : (K ps (q : Int) 0).length ≤ 400 := by
        have h1 := K_len (ps := ps) (q := (q : Int)) (a := 0) rfl
        have := h.ok.le
        omega
      by_cases h5 : (dtOf ds q).1 = 5
      · have inner : ∀ (r p : List Nat) (s : List UInt8) (m' : Nat) (b1 : Bool) (b2 : Int) (b3 b4 : List UInt8) (b5 b6 : Int), K ps (q : Int) 0 = p ++ r → r.length + 1 ≤ m' → ((i ∈ r) ∨ s = tokS ds q i a) →
            F33l1 n (F33l0 n m) m' (A1 ds ps) (i : Int) out (k : Int) (q : Int) s (ints (K ps (q : Int) 0)) (p.length : Int) (dtOf ds q).1 b1 b2 b3 b4 b5 b6 = some (way ++ [tokS ds q i a] ++ out) := by
          intro r
          induction r with
          | nil =>
            intro p s m' b1 b2 b3 b4 b5 b6 hp hm' hs
            obtain ⟨m', rfl⟩ : ∃ j, m' = j + 1 := ⟨m' - 1, by simp at hm'; omega⟩
            have hge : decide ((p.length : Int) < (((ints (K ps (q : Int) 0)).length : Nat) : Int)) = false := by rw [hp, ints_len]; simp
            have hs' : s = tokS ds q i a := by
              rcases hs with h | h
              · simp at h
              · exact h
            rw [F33l1, F33l1F, hge, hs']
            simp only [cond_false, hr, cond_true, hw]
            exact fin
          | cons x r ihr =>
            intro p s m' b1 b2 b3 b4 b5 b6 hp hm' hs
            obtain ⟨m', rfl⟩ : ∃ j, m' = j + 1 := ⟨m' - 1, by simp at hm'; omega⟩
            have hpl : p.length < 400 := by rw [hp] at hlen; simp at hlen; omega
            have hI : ints (K ps (q : Int) 0) = ints p ++ (x : Int) :: ints r := by rw [hp]; simp [ints]
            have hIp : (ints p).length = p.length := ints_len p
            have hlt : decide ((p.length : Int) < (((ints (K ps (q : Int) 0)).length : Nat) : Int)) = true := by rw [hI, ← hIp]; exact lt_pre (ints p) (x : Int) (ints r)
            have hin : inB (p.length : Int) (ints (K ps (q : Int) 0)).length = true := by rw [hI, ← hIp]; exact inB_LI (ints p) (x : Int) (ints r)
            have hg : (ints (K ps (q : Int) 0)).getD (Int.toNat (p.length : Int)) (Ty.dflt (.int .i64)) = (x : Int) := by rw [hI, ← hIp]; exact getD_preI (ints p) (x : Int) _ (ints r)
            have hwp : IntKind.wrap .i64 ((p.length : Int) + 1) = ((p ++ [x]).length : Int) := by rw [wrap64 (by omega) (by omega)]; simp
            rw [F33l1, F33l1F, hlt, h5, show ((5 : Int) == 5) = true from rfl, hin, hg, hwp]
            simp only [cond_true]
            by_cases hxi : x = i
            · subst hxi
              have hpa : p = a := by
                -- the place is the one
                have h1 : p ++ x :: r = a ++ x :: b := by rw [← hp, e]
                have hs := K_sorted (ps := ps) (q := (q : Int)) _ 0 rfl
                rw [hp] at hs
                have hnp : x ∉ p := fun hh => by
                  have := (List.pairwise_append.1 hs).2.2 x hh x (by simp)
                  omega
                have key : ∀ (p a r b : List Nat), p ++ x :: r = a ++ x :: b → x ∉ p → x ∉ a → p = a := by
                  intro p
                  induction p with
                  | nil =>
                    intro a r b h1 _ h3
                    cases a with
                    | nil => rfl
                    | cons y a =>
                      simp only [List.nil_append, List.cons_append, List.cons.injEq] at h1
                      exact absurd (by rw [h1.1]; simp) h3
                  | cons z p ihp =>
                    intro a r b h1 h2 h3
                    cases a with
                    | nil =>
                      simp only [List.nil_append, List.cons_append, List.cons.injEq] at h1
                      exact absurd (by rw [h1.1]; simp) h2
                    | cons y a =>
                      simp only [List.cons_append, List.cons.injEq] at h1
                      rw [h1.1, ihp a r b h1.2 (fun h => h2 (by simp [h])) (fun h => h3 (by simp [h]))]
                exact key p a r b h1 hnp ha
              have htok : tokS ds q x a = pr (a.length : Int) := by unfold tokS; rw [if_pos h5]
              rw [show ((x : Int) == (x : Int)) = true by simp, F23_eq n (by omega) _ (by omega) (by omega)]
              simp only [cond_true]
              have := ihr (p ++ [x]) (pr (p.length : Int)) m' b1 b2 b3 b4 b5 b6 (by rw [hp]; simp) (by simp at hm'; omega) (.inr (by rw [htok, hpa]))
              rw [h5] at this
              exact this
            · rw [show ((x : Int) == (i : Int)) = false by rw [beq_eq_false_iff_ne]; omega, cond_false]
              have := ihr (p ++ [x]) s m' b1 b2 b3 b4 b5 b6 (by rw [hp]; simp) (by simp at hm'; omega) (by
                rcases hs with h | h
                · rcases List.mem_cons.1 h with h | h
                  · exact absurd h.symm hxi
                  · exact .inl h
                · exact .inr h)
              rw [h5] at this
              exact this
        exact inner (K ps (q : Int) 0) [] (nm ds i) n _ _ _ _ _ _ (by simp) (by omega) (.inl (by rw [e]; simp))
      · obtain ⟨n', rfl⟩ : ∃ j, n = j + 1 := ⟨n - 1, by omega⟩
        have htok : tokS ds q i a = nm ds i := by unfold tokS; rw [if_neg h5]
        have h5' : ((dtOf ds q).1 == 5) = false := by simpa using h5
        rw [F33l1, F33l1F, h5']
        rw [htok] at fin ⊢
        simp only [hr, cond_true, cond_false, hw]
        cases decide ((0 : Int) < (((ints (K ps (q : Int) 0)).length : Nat) : Int)) <;> exact fin
end

theorem paths_node (n : Nat) (hn : 100000 ≤ n) (v : List Int) (at_ : Int) (x : V) (hx : GV 5 x) : F9j0 n v at_ x.kind x.b x.n x.s x.names x.kids = some true := by
  obtain ⟨ds, ps, h3, h4, h5, h6⟩ := make_good hx n (by omega)
  unfold F9j0
  rw [V.eta, h3]
  simp only [Option.isNone_some, cond_false, Bool.not_false, cond_true, awake12]
  by_cases hv : v.length > 60
  · rw [decide_eq_true (by omega)]; rfl
  rw [decide_eq_false (by omega), cond_false, len_eq]
  have hle := h5.ok.le
  have hmax : (if (1 : Int) > ((ps.length : Nat) : Int) then 1 else ((ps.length : Nat) : Int)) = ((ps.length : Nat) : Int) := by
    rw [if_neg (by omega)]
  simp only [hmax]
  obtain ⟨k, k1, k2, k3⟩ := place (n := n) (v := at_) (c := ((ps.length : Nat) : Int)) (by omega) (by omega)
  obtain ⟨i, rfl⟩ : ∃ i : Nat, k = (i : Int) := ⟨k.toNat, by omega⟩
  obtain ⟨d, d1, d2⟩ := h5.dep i (by omega)
  obtain ⟨way, w1, w2, w3, w4⟩ := path_good h5 d2 (by omega)
  have h33 : F33 n (A1 ds ps) (i : Int) = some way := by
    have := w4 n n 0 [] (by omega) (by omega) (by omega) (by simp)
    rw [List.append_nil] at this
    exact this
  have hw : ∀ x ∈ way, okU (bytesOf x) 0 0 = true ∧ x.length ≤ 100 := by
    intro x hx
    have := w3 x hx
    simpa [okN] using this
  have hpl : (printB way).length ≤ 10000 := by
    have : ∀ (l : List (List UInt8)), (∀ x ∈ l, x.length ≤ 100) → (printB l).length ≤ 201 * l.length := by
      intro l
      induction l with
      | nil => intro _; simp [printB]
      | cons t ts ih =>
        intro h
        have h1 := ih fun x hx => h x (by simp [hx])
        have h2 := h t (by simp)
        have h3 := esc_len t
        rw [printB_cons]
        simp only [List.length_cons, List.length_append]; omega
    have := this way fun x hx => (hw x hx).2
    omega
  rw [k1]
  simp only [h33, F18_print n way (by omega), F13_eq n (printB way) (by omega) (by omega), parse_print way (fun x hx => (hw x hx).1), (eval_both n (by omega) h5.ok h6 way (by omega) (by omega)).1, w2]
  simp [h6]

theorem paths_pure (n : Nat) (hn : 100000 ≤ n) (v : List Int) (small : Bool) (at_ : Int) : F9 n v small at_ = some true := by
  obtain ⟨x, h1, h2⟩ := Value_good n (by omega) v
  obtain ⟨y, g1, g2⟩ := Small_good n (by omega) v
  unfold F9
  rw [h1]
  cases small with
  | true =>
    simp only [cond_true, g1]
    exact paths_node n hn v at_ y g2
  | false => exact paths_node n hn v at_ x h2

theorem pointerPaths_pure (v : List Int) (small : Bool) (at_ : Int) : F9 100000 v small at_ = some true := paths_pure _ (Nat.le_refl _) v small at_

end Go.Proofs.YtaeamjhgfhcjdaaDoor.Ab.Pt
