/- ref17.First: it ends; where it finds nothing twice, no two names are alike. -/
import Derived.Test.YtdkelhdlfeendaaGB
import Derived.Test.YtdkelhdlfeendaaM3
import Derived.Test.YtdkelhdlfeendaaGC
namespace Go.Proofs.Ytdkelhdlfeendaa.Ab
open Go Go.RowKit Go.Proofs
set_option linter.unusedSimpArgs false
set_option linter.unusedVariables false

section
variable {T : TT} {fm : List UInt8 → List UInt8} {N : Nat}

theorem has_loop {L : List (List UInt8)} {f : List UInt8} : ∀ (suf pre : List (List UInt8)), (pre ++ suf).length ≤ 1000000 →
    ∀ n m, suf.length < m → F39l0 n m (some (some T, (L, (pre ++ suf, ())))) f (pre.length : Int) = some (suf.any (· == f))
  | [], pre, hl, n, m, hm => by
    cases m with
    | zero => omega
    | succ m =>
      show F39l0F n (F39l0 n m) (some (some T, (L, (pre ++ [], ())))) f (pre.length : Int) = _
      unfold F39l0F
      simp only [Option.isSome_some, cond_true, Option.getD_some, List.append_nil]
      rw [decide_eq_false (by omega)]
      rfl
  | c :: suf, pre, hl, n, m, hm => by
    have e : pre ++ c :: suf = (pre ++ [c]) ++ suf := by simp
    have hlen : (pre ++ c :: suf).length = pre.length + suf.length + 1 := by simp; omega
    cases m with
    | zero => omega
    | succ m =>
      show F39l0F n (F39l0 n m) (some (some T, (L, (pre ++ c :: suf, ())))) f (pre.length : Int) = _
      unfold F39l0F
      simp only [Option.isSome_some, cond_true, Option.getD_some]
      rw [lt_pre', inb_pre, get_pre]
      simp only [cond_true]
      cases h : (c == f)
      · simp only [cond_false, List.any_cons, h, Bool.false_or]
        rw [wrap64 (by omega) (by omega)]
        have := has_loop (L := L) (f := f) suf (pre ++ [c]) (by rw [← e]; exact hl) n m (by simp at hm; omega)
        rw [← e] at this
        simp only [List.length_append, List.length_singleton, Int.natCast_add, Int.natCast_one] at this
        exact this
      · simp only [cond_true, List.any_cons, h, Bool.true_or]

theorem has_ok {L Fm : List (List UInt8)} {s : List UInt8} (hf : ∀ n, N < n → F40 n (some T) s = some (fm s)) (hl : Fm.length ≤ 1000000) (n : Nat) (h1 : N < n) (h2 : Fm.length < n) :
    F39 n (some (some T, (L, (Fm, ())))) s = some (Fm.any (· == fm s)) := by
  unfold F39
  simp only [Option.isSome_some, cond_true, Option.getD_some]
  rw [hf n h1]
  exact has_loop (T := T) (L := L) (f := fm s) Fm [] (by simpa using hl) n n h2

theorem add_ok {L Fm : List (List UInt8)} {s : List UInt8} (hf : ∀ n, N < n → F40 n (some T) s = some (fm s)) (hl : Fm.length ≤ 1000000) (hL : L.length ≤ 1000000) (n : Nat) (h1 : N < n) (h2 : Fm.length < n) :
    F36 n (some T, (L, (Fm, ()))) s = some (bif Fm.any (· == fm s) then ((some T, (L, (Fm, ()))), false) else ((some T, (L ++ [s], (Fm ++ [fm s], ()))), true)) := by
  unfold F36
  rw [has_ok hf hl n h1 h2]
  simp only
  cases Fm.any (· == fm s)
  · simp only [cond_false]
    have r1 : (decide ((L.length + ([s] : List (List UInt8)).length) * 16 ≤ maxRoom) && decide (L.length + ([s] : List (List UInt8)).length ≤ maxRoom)) = true := by
      simp only [Bool.and_eq_true, decide_eq_true_eq, List.length_singleton]; unfold maxRoom; omega
    have r2 : (decide ((Fm.length + ([fm s] : List (List UInt8)).length) * 16 ≤ maxRoom) && decide (Fm.length + ([fm s] : List (List UInt8)).length ≤ maxRoom)) = true := by
      simp only [Bool.and_eq_true, decide_eq_true_eq, List.length_singleton]; unfold maxRoom; omega
    rw [r1, hf n h1]
    simp only [cond_true]
    rw [r2]
    rfl
  · rfl

/-- No two forms are alike, nor like one that was there. -/
def FreshN (Fm : List (List UInt8)) : List (List UInt8) → Prop
  | [] => True
  | f :: l => f ∉ Fm ∧ FreshN (Fm ++ [f]) l

theorem first_names_loop : ∀ (suf pre L Fm : List (List UInt8)), (∀ s ∈ suf, ∀ n, N < n → F40 n (some T) s = some (fm s)) → (pre ++ suf).length ≤ 900000 → Fm.length ≤ pre.length → L.length ≤ pre.length →
    ∃ r : Int × Bool, (∀ n m, N < n → (pre ++ suf).length < n → suf.length < m → F26l0 n m (pre ++ suf) (pre.length : Int) (some T) L Fm = some r) ∧ (r.2 = false ↔ FreshN Fm (suf.map fm))
  | [], pre, L, Fm, hf, hl, h1, h2 => by
    refine ⟨(0, false), fun n m hN hn hm => ?_, by simp [FreshN]⟩
    cases m with
    | zero => omega
    | succ m =>
      show F26l0F n (F26l0 n m) (pre ++ []) (pre.length : Int) (some T) L Fm = _
      unfold F26l0F
      rw [List.append_nil, decide_eq_false (by omega)]
      rfl
  | c :: suf, pre, L, Fm, hf, hl, h1, h2 => by
    have e : pre ++ c :: suf = (pre ++ [c]) ++ suf := by simp
    have hlen : (pre ++ c :: suf).length = pre.length + suf.length + 1 := by simp; omega
    have hadd := fun n (hN : N < n) (hn : (pre ++ c :: suf).length < n) => add_ok (T := T) (fm := fm) (L := L) (Fm := Fm) (hf c (by simp)) (by omega) (by omega) n hN (by omega)
    cases hb : Fm.any (· == fm c)
    · obtain ⟨r, r1, r2⟩ := first_names_loop suf (pre ++ [c]) (L ++ [c]) (Fm ++ [fm c]) (fun s hs => hf s (by simp [hs])) (by rw [← e]; exact hl) (by simp; omega) (by simp; omega)
      rw [← e] at r1
      have hnot : fm c ∉ Fm := by
        intro hm
        have := List.any_eq_false.1 hb _ hm
        simp at this
      refine ⟨r, fun n m hN hn hm => ?_, by rw [r2]; simp [FreshN, hnot]⟩
      cases m with
      | zero => omega
      | succ m =>
        show F26l0F n (F26l0 n m) (pre ++ c :: suf) (pre.length : Int) (some T) L Fm = _
        unfold F26l0F
        rw [lt_pre', inb_pre, get_pre]
        simp only [cond_true]
        rw [hadd n hN hn, hb]
        simp only [cond_false, Bool.not_true]
        rw [wrap64 (by omega) (by omega)]
        have := r1 n m hN hn (by simp at hm; omega)
        simp only [List.length_append, List.length_singleton, Int.natCast_add, Int.natCast_one] at this
        exact this
    · have hin : fm c ∈ Fm := by
        obtain ⟨x, hx, he⟩ := List.any_eq_true.1 hb
        have : x = fm c := eq_of_beq he
        rw [← this]; exact hx
      refine ⟨((pre.length : Int), true), fun n m hN hn hm => ?_, by simp [FreshN, hin]⟩
      cases m with
      | zero => omega
      | succ m =>
        show F26l0F n (F26l0 n m) (pre ++ c :: suf) (pre.length : Int) (some T) L Fm = _
        unfold F26l0F
        rw [lt_pre', inb_pre, get_pre]
        simp only [cond_true]
        rw [hadd n hN hn, hb]
        rfl

theorem freshN_nodup : ∀ (l Fm : List (List UInt8)), FreshN Fm (l.map fm) → l.Nodup ∧ ∀ s ∈ l, fm s ∉ Fm
  | [], _, _ => by simp
  | c :: l, Fm, h => by
    obtain ⟨h1, h2⟩ := h
    obtain ⟨k1, k2⟩ := freshN_nodup l (Fm ++ [fm c]) h2
    refine ⟨List.nodup_cons.2 ⟨fun hc => k2 c hc (by simp), k1⟩, ?_⟩
    intro s hs
    rcases List.mem_cons.1 hs with rfl | hs
    · exact h1
    · exact fun hx => k2 s hs (by simp [hx])

theorem F26_ok (l : List (List UInt8)) (hf : ∀ s ∈ l, ∀ n, N < n → F40 n (some T) s = some (fm s)) (hl : l.length ≤ 900000) :
    ∃ r : Int × Bool, (∀ n, N < n → l.length < n → F26 n (some T) l = some r) ∧ (r.2 = false → l.Nodup) := by
  obtain ⟨r, h1, h2⟩ := first_names_loop (T := T) (fm := fm) (N := N) l [] [] [] hf (by simpa using hl) (by simp) (by simp)
  exact ⟨r, fun n hN hn => h1 n n hN (by simpa using hn) hn, fun h => (freshN_nodup l [] (h2.1 h)).1⟩
end

end Go.Proofs.Ytdkelhdlfeendaa.Ab

/- Text of a value: it ends. -/
namespace Go.Proofs.Ytdkelhdlfeendaa.Ab
open Go Go.RowKit Go.Proofs
set_option linter.unusedSimpArgs false
set_option linter.unusedVariables false

theorem F35_ok (x : Int) : ∃ v, ∀ n, F35 n x = some v := by
  obtain ⟨b, hb⟩ := F38_ok x
  have e1 : (!((65536 : Nat) == 0)) = true := by decide
  have key : ∃ v, F35 0 x = some v := by
    unfold F35
    rw [hb 0]
    simp only [e1, cond_true]
    repeat' first
      | exact ⟨_, rfl⟩
      | refine cond_some ?_ ?_
  obtain ⟨v, hv⟩ := key
  refine ⟨v, fun n => ?_⟩
  rw [← hv]
  unfold F35
  rw [hb n, hb 0]

theorem t25_loop : ∀ (suf pre : List Int) (b : Bool), (pre ++ suf).length ≤ 900000000 → ∃ v, ∀ n m, suf.length < m → F25l0 n m (pre ++ suf) b (pre.length : Int) = some v
  | [], pre, b, hl => by
    refine ⟨b, fun n m hm => ?_⟩
    cases m with
    | zero => omega
    | succ m =>
      show F25l0F n (F25l0 n m) (pre ++ []) b (pre.length : Int) = _
      unfold F25l0F
      rw [List.append_nil, decide_eq_false (by omega)]
      rfl
  | c :: suf, pre, b, hl => by
    have e : pre ++ c :: suf = (pre ++ [c]) ++ suf := by simp
    have hlen : (pre ++ c :: suf).length = pre.length + suf.length + 1 := by simp; omega
    obtain ⟨u, hu⟩ := F35_ok c
    obtain ⟨v, hv⟩ := t25_loop suf (pre ++ [c]) (b && !u) (by rw [← e]; exact hl)
    rw [← e] at hv
    simp only [List.length_append, List.length_singleton, Int.natCast_add, Int.natCast_one] at hv
    refine ⟨v, fun n m hm => ?_⟩
    cases m with
    | zero => omega
    | succ m =>
      show F25l0F n (F25l0 n m) (pre ++ c :: suf) b (pre.length : Int) = _
      unfold F25l0F
      rw [lt_pre', inb_pre, get_pre, hu n, wrap64 (by omega) (by omega)]
      have := hv n m (by simp at hm; omega)
      cases b
      · exact this
      · exact this

theorem F25_ok (s : List UInt8) (hl : s.length ≤ 1000000) : ∃ v, ∀ n, s.length + 20 < n → F25 n s = some v := by
  have hb : (bytesOf s).length = s.length := by simp [bytesOf]
  obtain ⟨u, hu, hul⟩ := F34_ok (bytesOf s) (by omega)
  obtain ⟨v, hv⟩ := t25_loop u.1 [] u.2.2 (by simp; omega)
  refine ⟨v, fun n hn => ?_⟩
  unfold F25
  rw [hu n (by omega)]
  exact hv n n (by omega)

end Go.Proofs.Ytdkelhdlfeendaa.Ab

/- ref20.plain ends; an object that is plain has as many names as kids. -/
namespace Go.Proofs.Ytdkelhdlfeendaa.Ab
open Go Go.RowKit Go.Proofs
set_option linter.unusedSimpArgs false
set_option linter.unusedVariables false

/-- An answer, the same with all fuel that is enough; where it is true, this holds. -/
def Tells (N : Nat) (C : Prop) (o : Nat → Option Bool) : Prop := ∃ b, (∀ n, N < n → o n = some b) ∧ (b = true → C)

theorem tells_false {N : Nat} {C : Prop} : Tells N C (fun _ => some false) := ⟨false, fun _ _ => rfl, fun h => by cases h⟩
theorem tells_cond {N : Nat} {C : Prop} {c : Bool} {o1 o2 : Nat → Option Bool} (h1 : c = true → Tells N C o1) (h2 : c = false → Tells N C o2) : Tells N C (fun n => bif c then o1 n else o2 n) := by
  cases c
  · exact h2 rfl
  · exact h1 rfl

theorem F24j1_ok {N : Nat} {C : Prop} (hC : C) {k : Int} {b : Bool} {i : Int} {s : List UInt8} {l : List (List UInt8)} {m : List V} (hs : s.length ≤ 1000000) (hN : s.length + 20 ≤ N) : Tells N C (fun n => F24j1 n k b i s l m) := by
  obtain ⟨v, hv⟩ := F25_ok s hs
  unfold F24j1
  refine tells_cond (fun _ => tells_cond (fun _ => ⟨v, fun n hn => ?_, fun _ => hC⟩) fun _ => tells_false) fun _ => tells_false
  show (match F25 n s with | some r1 => some r1 | none => none) = some v
  rw [hv n (by omega)]

theorem F24j0_ok {N : Nat} {k : Int} {b : Bool} {i : Int} {s : List UInt8} {l : List (List UInt8)} {m : List V} (hs : s.length ≤ 1000000) (hN : s.length + 20 ≤ N) : Tells N (k = 6 → l.length = m.length) (fun n => F24j0 n k b i s l m) := by
  unfold F24j0
  have fin6 : Tells N (k = 6 → l.length = m.length) (fun n => bif ((l.length : Int) != (m.length : Int)) then some false else F24j1 n k b i s l m) := by
    refine tells_cond (fun _ => tells_false) fun h => F24j1_ok (fun _ => ?_) hs hN
    have : (l.length : Int) = (m.length : Int) := by simpa using h
    omega
  have finN : (k == 6) = false → Tells N (k = 6 → l.length = m.length) (fun n => F24j1 n k b i s l m) := fun h => F24j1_ok (fun e => by subst e; simp at h) hs hN
  have tail : Tells N (k = 6 → l.length = m.length) (fun n => bif (k == 6) then (bif ((l.length : Int) != (m.length : Int)) then some false else F24j1 n k b i s l m) else F24j1 n k b i s l m) := tells_cond (fun _ => fin6) finN
  exact tells_cond (fun _ => tells_cond (fun _ => tells_false) fun _ => tells_cond (fun _ => tells_cond (fun _ => tells_false) fun _ => tail) fun _ => tail) fun _ => tells_cond (fun _ => tells_cond (fun _ => tells_false) fun _ => tail) fun _ => tail

theorem F24_ok {N : Nat} (v : V) (hs : v.s.length ≤ 1000000) (hN : v.s.length + 20 ≤ N) : Tells N (v.kind = 6 → v.names.length = v.kids.length) (fun n => F24 n v) := by
  have h0 := F24j0_ok (N := N) (k := v.kind) (b := v.b) (i := v.n) (s := v.s) (l := v.names) (m := v.kids) hs hN
  unfold F24
  repeat' first
    | exact tells_false
    | exact h0
    | refine tells_cond (fun _ => ?_) (fun _ => ?_)

end Go.Proofs.Ytdkelhdlfeendaa.Ab

/- ref20.Check ends; what it lets in is right in this: names are no two alike, and as many as kids. -/
namespace Go.Proofs.Ytdkelhdlfeendaa.Ab
open Go Go.RowKit Go.Proofs
set_option linter.unusedSimpArgs false
set_option linter.unusedVariables false

/-- Texts and rows are no longer than B, and it is no deeper than d. -/
def FitsV (B : Nat) : Nat → V → Prop
  | 0, _ => False
  | d + 1, v => v.s.length ≤ B ∧ (∀ s ∈ v.names, s.length ≤ B) ∧ v.names.length ≤ B ∧ v.kids.length ≤ B ∧ ∀ k ∈ v.kids, FitsV B d k

def RightN : Nat → V → Prop
  | 0, _ => False
  | d + 1, v => (v.kind = 6 → v.names.length = v.kids.length) ∧ v.names.Nodup ∧ ∀ k ∈ v.kids, RightN d k

theorem forms_all {T : TT} (hT : FullOK T) (B : Nat) (hB : B ≤ 100000) : ∃ fm : List UInt8 → List UInt8, ∀ s : List UInt8, s.length ≤ B → ∀ n, 192 * B + 100 < n → F40 n (some T) s = some (fm s) := by
  have h : ∀ s : List UInt8, ∃ out, s.length ≤ B → ∀ n, 192 * B + 100 < n → F40 n (some T) s = some out := by
    intro s
    by_cases hs : s.length ≤ B
    · obtain ⟨out, ho⟩ := F40_ok hT s (by omega)
      exact ⟨out, fun _ n hn => ho n (by omega)⟩
    · exact ⟨[], fun h => absurd h hs⟩
  exact ⟨fun s => Classical.choose (h s), fun s hs => Classical.choose_spec (h s) hs⟩

section
variable {T : TT} {B M : Nat} {k : Int} {b : Bool} {i : Int} {s : List UInt8}

theorem kids_loop {d : Nat} (hk : ∀ v, FitsV B d v → Tells M (RightN d v) (fun n => F13 n (some T) v)) {l : List (List UInt8)} : ∀ (suf pre : List V), (pre ++ suf).length ≤ 1000000 → (∀ v ∈ suf, FitsV B d v) →
    ∃ r, (∀ n m, M < n → suf.length < m → F13l1 (F13 n) n m (some T) (pre.length : Int) k b i s l (pre ++ suf) = some r) ∧ (r = true → ∀ v ∈ suf, RightN d v)
  | [], pre, hl, hf => by
    refine ⟨true, fun n m hn hm => ?_, fun _ => by simp⟩
    cases m with
    | zero => omega
    | succ m =>
      show F13l1F (F13 n) n (F13l1 (F13 n) n m) (some T) (pre.length : Int) k b i s l (pre ++ []) = _
      unfold F13l1F
      rw [List.append_nil, decide_eq_false (by omega)]
      rfl
  | c :: suf, pre, hl, hf => by
    have e : pre ++ c :: suf = (pre ++ [c]) ++ suf := by simp
    have hlen : (pre ++ c :: suf).length = pre.length + suf.length + 1 := by simp; omega
    obtain ⟨u, hu, hur⟩ := hk c (hf c (by simp))
    cases hb : u
    · refine ⟨false, fun n m hn hm => ?_, fun h => by cases h⟩
      cases m with
      | zero => omega
      | succ m =>
        show F13l1F (F13 n) n (F13l1 (F13 n) n m) (some T) (pre.length : Int) k b i s l (pre ++ c :: suf) = _
        unfold F13l1F
        rw [lt_pre', inb_pre, get_pre]
        simp only [cond_true]
        rw [show F13 n (some T) c = some u from hu n hn, hb]
        rfl
    · obtain ⟨r, h1, h2⟩ := kids_loop hk (l := l) suf (pre ++ [c]) (by rw [← e]; exact hl) (fun v hv => hf v (by simp [hv]))
      rw [← e] at h1
      simp only [List.length_append, List.length_singleton, Int.natCast_add, Int.natCast_one] at h1
      refine ⟨r, fun n m hn hm => ?_, fun h v hv => ?_⟩
      · cases m with
        | zero => omega
        | succ m =>
          show F13l1F (F13 n) n (F13l1 (F13 n) n m) (some T) (pre.length : Int) k b i s l (pre ++ c :: suf) = _
          unfold F13l1F
          rw [lt_pre', inb_pre, get_pre]
          simp only [cond_true]
          rw [show F13 n (some T) c = some u from hu n hn, hb, wrap64 (by omega) (by omega)]
          exact h1 n m hn (by simp at hm; omega)
      · rcases List.mem_cons.1 hv with rfl | hv
        · exact hur hb
        · exact h2 h v hv

theorem names_loop {kids : List V} {C : Prop} (hMB : B + 20 ≤ M) (hB : B ≤ 100000) {l : List (List UInt8)} (hl0 : l.length ≤ B) {C : Prop}
    (hend : ∃ r, (∀ n, M < n → (match F26 n (some T) l with | some r3 => (bif r3.2 then some false else F13l1 (F13 n) n n (some T) 0 k b i s l kids) | none => none) = some r) ∧ (r = true → C)) :
    ∀ (suf pre : List (List UInt8)), pre ++ suf = l → (∀ x ∈ suf, x.length ≤ B) →
    ∃ r, (∀ n m, M < n → suf.length < m → F13l0 (F13 n) n m (some T) (pre.length : Int) k b i s l kids = some r) ∧ (r = true → C)
  | [], pre, e, hf => by
    obtain ⟨r, h1, h2⟩ := hend
    refine ⟨r, fun n m hn hm => ?_, h2⟩
    cases m with
    | zero => omega
    | succ m =>
      show F13l0F (F13 n) n (F13l0 (F13 n) n m) (some T) (pre.length : Int) k b i s l kids = _
      unfold F13l0F
      rw [List.append_nil] at e
      rw [decide_eq_false (by rw [e]; omega)]
      exact h1 n hn
  | c :: suf, pre, e, hf => by
    have e' : (pre ++ [c]) ++ suf = l := by rw [← e]; simp
    have hlen : l.length = pre.length + suf.length + 1 := by rw [← e]; simp; omega
    obtain ⟨u, hu⟩ := F25_ok c (by have := hf c (by simp); omega)
    have hcl := hf c (by simp)
    obtain ⟨r, h1, h2⟩ := names_loop (kids := kids) (C := C) hMB hB hl0 hend suf (pre ++ [c]) e' (fun x hx => hf x (by simp [hx]))
    simp only [List.length_append, List.length_singleton, Int.natCast_add, Int.natCast_one] at h1
    have hd : decide ((pre.length : Int) < (l.length : Int)) = true := decide_eq_true (by omega)
    have hi : inB (pre.length : Int) l.length = true := inb_of (by omega) (by omega)
    have hg : l.getD (Int.toNat (pre.length : Int)) (Ty.dflt .str) = c := by rw [← e]; exact get_pre ..
    cases hb : u
    · refine ⟨false, fun n m hn hm => ?_, fun h => by cases h⟩
      cases m with
      | zero => omega
      | succ m =>
        show F13l0F (F13 n) n (F13l0 (F13 n) n m) (some T) (pre.length : Int) k b i s l kids = _
        unfold F13l0F
        rw [hd, hi, hg]
        simp only [cond_true]
        rw [hu n (by omega), hb]
        rfl
    · refine ⟨r, fun n m hn hm => ?_, h2⟩
      cases m with
      | zero => omega
      | succ m =>
        show F13l0F (F13 n) n (F13l0 (F13 n) n m) (some T) (pre.length : Int) k b i s l kids = _
        unfold F13l0F
        rw [hd, hi, hg]
        simp only [cond_true]
        rw [hu n (by omega), hb, wrap64 (by omega) (by omega)]
        exact h1 n m hn (by simp at hm; omega)
end

theorem check_ok {T : TT} (hT : FullOK T) (B : Nat) (hB : B ≤ 100000) : ∀ (d : Nat) (v : V), FitsV B d v → Tells (192 * B + 300 + d) (RightN d v) (fun n => F13 n (some T) v)
  | 0, _, h => h.elim
  | d + 1, v, h => by
    obtain ⟨hs, hn, hnl, hkl, hk⟩ := h
    obtain ⟨fm, hfm⟩ := forms_all hT B hB
    obtain ⟨r, hr, hnd⟩ := F26_ok (T := T) (fm := fm) (N := 192 * B + 100) v.names (fun s hs n h => hfm s (hn s hs) n h) (by omega)
    obtain ⟨q, hq, hqr⟩ := kids_loop (T := T) (B := B) (M := 192 * B + 300 + d) (k := v.kind) (b := v.b) (i := v.n) (s := v.s) (check_ok hT B hB d) (l := v.names) v.kids [] (by simp; omega) hk
    have hend : ∃ z, (∀ n, 192 * B + 300 + d < n → (match F26 n (some T) v.names with | some r3 => (bif r3.2 then some false else F13l1 (F13 n) n n (some T) 0 v.kind v.b v.n v.s v.names v.kids) | none => none) = some z) ∧ (z = true → v.names.Nodup ∧ ∀ k ∈ v.kids, RightN d k) := by
      cases hr2 : r.2
      · refine ⟨q, fun n hn => ?_, fun h => ⟨hnd hr2, hqr h⟩⟩
        rw [hr n (by omega) (by omega)]
        simp only
        rw [hr2]
        exact hq n n hn (by omega)
      · refine ⟨false, fun n hn => ?_, fun h => by cases h⟩
        rw [hr n (by omega) (by omega)]
        simp only
        rw [hr2]
        rfl
    obtain ⟨z, hz, hzr⟩ := names_loop (T := T) (B := B) (M := 192 * B + 300 + d) (k := v.kind) (b := v.b) (i := v.n) (s := v.s) (kids := v.kids) (C := v.names.Nodup ∧ ∀ k ∈ v.kids, RightN d k) (by omega) hB hnl hend v.names [] rfl hn
    obtain ⟨p, hp, hpr⟩ := F24_ok (N := 192 * B + 300 + d) v (by omega) (by omega)
    have hstep : ∀ x : Bool, (∀ n, 192 * B + 300 + d < n → F13B (F13 n) n (some T) v = some x) → ∀ n, 192 * B + 300 + (d + 1) < n → F13 n (some T) v = some x := by
      intro x hx n hn
      cases n with
      | zero => omega
      | succ n => exact hx n (by omega)
    have hp' : ∀ n, 192 * B + 300 + d < n → F24 n (V.mk v.kind v.b v.n v.s v.names v.kids) = some p := fun n hn => hp n hn
    cases hb : p
    · refine ⟨false, hstep false fun n hn => ?_, fun h => by cases h⟩
      unfold F13B
      rw [hp' n hn, hb]
      rfl
    · refine ⟨z, hstep z fun n hn => ?_, fun h => ⟨hpr hb, hzr h⟩⟩
      unfold F13B
      rw [hp' n hn, hb]
      exact hz n n hn (by omega)

end Go.Proofs.Ytdkelhdlfeendaa.Ab

/- The merging of two right values, as patch.Merge and as the document's own Merge do it: both come to the same, told member by member. -/
namespace Go.Proofs.Ytdkelhdlfeendaa.Ab.Pm
open Go Go.RowKit Go.Proofs
set_option linter.unusedSimpArgs false
set_option linter.unusedVariables false

theorem wrap64 {x : Int} (h1 : -9223372036854775808 ≤ x) (h2 : x ≤ 9223372036854775807) : IntKind.wrap .i64 x = x := by
  simp only [IntKind.wrap, IntKind.bits, IntKind.signed]
  simp
  omega

/-- Rows no longer than B, and no deeper than d. -/
def Sz (B : Nat) : Nat → V → Prop
  | 0, _ => False
  | d + 1, v => v.names.length ≤ B ∧ v.kids.length ≤ B ∧ ∀ k ∈ v.kids, Sz B d k

theorem inB_of {i : Nat} {len : Nat} (h : i < len) : inB (i : Int) len = true := by
  simp [inB]; omega

theorem dec_of {p : Prop} [Decidable p] (h : p) : decide p = true := decide_eq_true h

theorem getD_mem {α : Type} {l : List α} {i : Nat} (h : i < l.length) (d : α) : l.getD i d ∈ l := by
  simp [List.getD, List.getElem?_eq_getElem h]

theorem F14l1_self {self : V → V → Option Bool} {n : Nat} {k0 : Int} {k1 : Bool} {k2 : Int} {k3 : List UInt8} {ns : List (List UInt8)} {ks : List V} (hs : ∀ k ∈ ks, self k k = some true) (hl : ks.length ≤ 2000) :
    ∀ j i m, i + j = ks.length → j < m → F14l1 self n m (i : Int) k0 k1 k2 k3 ns ks k0 k1 k2 k3 ns ks = some true := by
  intro j
  induction j with
  | zero =>
    intro i m h1 h2
    obtain ⟨m, rfl⟩ : ∃ q, m = q + 1 := ⟨m - 1, by omega⟩
    simp only [F14l1, F14l1F]
    rw [decide_eq_false (by omega)]
    rfl
  | succ j ih =>
    intro i m h1 h2
    obtain ⟨m, rfl⟩ : ∃ q, m = q + 1 := ⟨m - 1, by omega⟩
    have hlt : i < ks.length := by omega
    simp only [F14l1, F14l1F]
    rw [decide_eq_true (by omega), inB_of hlt, hs _ (by rw [Int.toNat_natCast]; exact getD_mem hlt _)]
    simp only [cond_true, Bool.not_true, cond_false]
    rw [wrap64 (by omega) (by omega)]
    exact ih (i + 1) m (by omega) (by omega)

theorem F14l0_self {self : V → V → Option Bool} {n : Nat} {k0 : Int} {k1 : Bool} {k2 : Int} {k3 : List UInt8} {ns : List (List UInt8)} {ks : List V} (hs : ∀ k ∈ ks, self k k = some true) (hl : ks.length ≤ 2000) (hn : ns.length ≤ 2000) (h20 : 2020 ≤ n) :
    ∀ j i m, i + j = ns.length → j < m → F14l0 self n m (i : Int) k0 k1 k2 k3 ns ks k0 k1 k2 k3 ns ks = some true := by
  intro j
  induction j with
  | zero =>
    intro i m h1 h2
    obtain ⟨m, rfl⟩ : ∃ q, m = q + 1 := ⟨m - 1, by omega⟩
    simp only [F14l0, F14l0F]
    rw [decide_eq_false (by omega)]
    exact F14l1_self hs hl ks.length 0 n (by omega) (by omega)
  | succ j ih =>
    intro i m h1 h2
    obtain ⟨m, rfl⟩ : ∃ q, m = q + 1 := ⟨m - 1, by omega⟩
    have hlt : i < ns.length := by omega
    simp only [F14l0, F14l0F]
    rw [decide_eq_true (by omega), inB_of hlt, beq_self_eq_true]
    simp only [cond_true, Bool.not_true, cond_false]
    rw [wrap64 (by omega) (by omega)]
    exact ih (i + 1) m (by omega) (by omega)

/-- A value is the same as itself. -/
theorem same_self {B : Nat} (hB : B ≤ 2000) : ∀ (d : Nat) (v : V) (n : Nat), Sz B d v → d + 2020 ≤ n → F14 n v v = some true
  | 0, _, _, h, _ => h.elim
  | d + 1, v, n, ⟨h1, h2, h3⟩, hn => by
    obtain ⟨n, rfl⟩ : ∃ q, n = q + 1 := ⟨n - 1, by omega⟩
    simp only [F14, F14B, bne_self_eq_false, beq_self_eq_true, Bool.not_true, cond_false]
    exact F14l0_self (fun k hk => same_self hB d k n (h3 k hk) (by omega)) (by omega) (by omega) (by omega) v.names.length 0 n (by omega) (by omega)

/-- A name that is not there is not found. -/
theorem F29_none {n : Nat} {ns : List (List UInt8)} {x : List UInt8} (hx : x ∉ ns) (hl : ns.length ≤ 2000) (hn : 2020 ≤ n) : F29 n ns x = some (-1) := by
  have key : ∀ j i m, i + j = ns.length → j < m → F29l0 n m ns x (ns.length : Int) (i : Int) = some (-1) := by
    intro j
    induction j with
    | zero =>
      intro i m h1 h2
      obtain ⟨m, rfl⟩ : ∃ q, m = q + 1 := ⟨m - 1, by omega⟩
      simp only [F29l0, F29l0F]
      rw [decide_eq_false (by omega)]
      rfl
    | succ j ih =>
      intro i m h1 h2
      obtain ⟨m, rfl⟩ : ∃ q, m = q + 1 := ⟨m - 1, by omega⟩
      have hlt : i < ns.length := by omega
      simp only [F29l0, F29l0F]
      have hne : (x == ns.getD (Int.toNat (i : Int)) (Ty.dflt .str)) = false := by
        rw [beq_eq_false_iff_ne]
        intro e
        exact hx (e ▸ by rw [Int.toNat_natCast]; exact getD_mem hlt _)
      rw [decide_eq_true (by omega), inB_of hlt, hne]
      simp only [cond_true, cond_false]
      rw [wrap64 (by omega) (by omega)]
      exact ih (i + 1) m (by omega) (by omega)
  exact key ns.length 0 n (by omega) (by omega)

/-- A right value, with rows no longer than B, no deeper than d. -/
def OKV (B : Nat) : Nat → V → Prop
  | 0, _ => False
  | d + 1, v => v.names.length ≤ B ∧ v.kids.length ≤ B ∧ (v.kind = 6 → v.names.length = v.kids.length ∧ v.names.Nodup) ∧ ∀ k ∈ v.kids, OKV B d k

theorem OKV.sz {B : Nat} : ∀ {d : Nat} {v : V}, OKV B d v → Sz B d v
  | 0, _, h => h.elim
  | _ + 1, _, ⟨h1, h2, _, h4⟩ => ⟨h1, h2, fun k hk => (h4 k hk).sz⟩

theorem V.eta (v : V) : V.mk v.kind v.b v.n v.s v.names v.kids = v := by cases v; rfl

def none0 : V := ⟨0, false, 0, [], [], []⟩

abbrev Mem2 := List UInt8 × V
def nms (l : List Mem2) : List (List UInt8) := l.map (·.1)
def kds (l : List Mem2) : List V := l.map (·.2)
def prs (v : V) : List Mem2 := v.names.zip v.kids

theorem nms_prs {v : V} (h : v.names.length = v.kids.length) : nms (prs v) = v.names := List.map_fst_zip (Nat.le_of_eq h)
theorem kds_prs {v : V} (h : v.names.length = v.kids.length) : kds (prs v) = v.kids := List.map_snd_zip (Nat.le_of_eq h.symm)
theorem nms_length (l : List Mem2) : (nms l).length = l.length := List.length_map ..
theorem kds_length (l : List Mem2) : (kds l).length = l.length := List.length_map ..

/-- Where a name stands; -1. -/
def pos (ns : List (List UInt8)) (x : List UInt8) : Int := if x ∈ ns then (ns.idxOf x : Int) else -1

theorem nodup_at {ns : List (List UInt8)} (hd : ns.Nodup) {i j : Nat} {x : List UInt8} (hi : ns[i]? = some x) (hj : ns[j]? = some x) : i = j := by
  obtain ⟨h1, h2⟩ := List.getElem?_eq_some_iff.1 hi
  obtain ⟨h3, h4⟩ := List.getElem?_eq_some_iff.1 hj
  rcases Nat.lt_trichotomy i j with h | h | h
  · exact absurd (h2.trans h4.symm) (List.pairwise_iff_getElem.1 hd i j h1 h3 h)
  · exact h
  · exact absurd (h4.trans h2.symm) (List.pairwise_iff_getElem.1 hd j i h3 h1 h)

theorem pos_eq {ns : List (List UInt8)} (hd : ns.Nodup) {i : Nat} {x : List UInt8} (hi : ns[i]? = some x) : pos ns x = (i : Int) := by
  have hm : x ∈ ns := List.mem_of_getElem? hi
  unfold pos
  rw [if_pos hm]
  have hlt := List.idxOf_lt_length_of_mem hm
  have : ns[ns.idxOf x]? = some x := by rw [List.getElem?_eq_getElem hlt]; simp
  rw [nodup_at hd this hi]

theorem pos_none {ns : List (List UInt8)} {x : List UInt8} (h : x ∉ ns) : pos ns x = -1 := if_neg h

theorem pos_cases {ns : List (List UInt8)} (hd : ns.Nodup) (x : List UInt8) : (x ∉ ns ∧ pos ns x = -1) ∨ ∃ i, i < ns.length ∧ pos ns x = (i : Int) ∧ ns[i]? = some x := by
  by_cases h : x ∈ ns
  · obtain ⟨i, hi⟩ := List.getElem?_of_mem h
    exact .inr ⟨i, (List.getElem?_eq_some_iff.1 hi).1, pos_eq hd hi, hi⟩
  · exact .inl ⟨h, pos_none h⟩

theorem F29_pos {n : Nat} {ns : List (List UInt8)} {x : List UInt8} (hd : ns.Nodup) (hl : ns.length ≤ 2000) (hn : 2020 ≤ n) : F29 n ns x = some (pos ns x) := by
  by_cases hx : x ∈ ns
  · obtain ⟨q, hq⟩ := List.getElem?_of_mem hx
    have hql := (List.getElem?_eq_some_iff.1 hq).1
    rw [pos_eq hd hq]
    have key : ∀ j i m, i + j = q → j < m → F29l0 n m ns x (ns.length : Int) (i : Int) = some (q : Int) := by
      intro j
      induction j with
      | zero =>
        intro i m h1 h2
        obtain ⟨m, rfl⟩ : ∃ q, m = q + 1 := ⟨m - 1, by omega⟩
        obtain rfl : i = q := by omega
        simp only [F29l0, F29l0F]
        rw [decide_eq_true (by omega), inB_of hql, Int.toNat_natCast, List.getD_eq_getElem?_getD, hq, Option.getD_some, beq_self_eq_true]
        rfl
      | succ j ih =>
        intro i m h1 h2
        obtain ⟨m, rfl⟩ : ∃ q, m = q + 1 := ⟨m - 1, by omega⟩
        have hlt : i < ns.length := by omega
        have hne : (x == ns.getD (Int.toNat (i : Int)) (Ty.dflt .str)) = false := by
          rw [beq_eq_false_iff_ne, Int.toNat_natCast, List.getD_eq_getElem?_getD, List.getElem?_eq_getElem hlt, Option.getD_some]
          intro e
          have := nodup_at hd (by rw [List.getElem?_eq_getElem hlt, ← e]) hq
          omega
        simp only [F29l0, F29l0F]
        rw [decide_eq_true (by omega), inB_of hlt, hne]
        simp only [cond_true, cond_false]
        rw [wrap64 (by omega) (by omega)]
        exact ih (i + 1) m (by omega) (by omega)
    exact key q 0 n (by omega) (by omega)
  · rw [pos_none hx]
    exact F29_none hx hl hn

theorem F18_pos {n : Nat} {v : V} {x : List UInt8} (hk : v.kind = 6) (hd : v.names.Nodup) (hl : v.names.length ≤ 2000) (hn : 2020 ≤ n) : F18 n v x = some (pos v.names x) := by
  unfold F18
  have e6 : (v.kind == 6) = true := by simp [hk]
  rcases pos_cases hd x with ⟨h1, h2⟩ | ⟨q, hql, h2, hq⟩
  · rw [h2]
    have key : ∀ j i m, i + j = v.names.length → j < m → F18l0 n m x (i : Int) v.kind v.b v.n v.s v.names v.kids = some (-1) := by
      intro j
      induction j with
      | zero =>
        intro i m q1 q2
        obtain ⟨m, rfl⟩ : ∃ q, m = q + 1 := ⟨m - 1, by omega⟩
        simp only [F18l0, F18l0F]
        rw [decide_eq_false (by omega)]
        rfl
      | succ j ih =>
        intro i m q1 q2
        obtain ⟨m, rfl⟩ : ∃ q, m = q + 1 := ⟨m - 1, by omega⟩
        have hlt : i < v.names.length := by omega
        have hne : (v.names.getD (Int.toNat (i : Int)) (Ty.dflt .str) == x) = false := by
          rw [beq_eq_false_iff_ne]
          intro e
          exact h1 (e ▸ by rw [Int.toNat_natCast]; exact getD_mem hlt _)
        simp only [F18l0, F18l0F, e6]
        rw [decide_eq_true (by omega), inB_of hlt, hne]
        simp only [cond_true, cond_false]
        rw [wrap64 (by omega) (by omega)]
        exact ih (i + 1) m (by omega) (by omega)
    exact key v.names.length 0 n (by omega) (by omega)
  · rw [h2]
    have key : ∀ j i m, i + j = q → j < m → F18l0 n m x (i : Int) v.kind v.b v.n v.s v.names v.kids = some (q : Int) := by
      intro j
      induction j with
      | zero =>
        intro i m q1 q2
        obtain ⟨m, rfl⟩ : ∃ q, m = q + 1 := ⟨m - 1, by omega⟩
        obtain rfl : i = q := by omega
        simp only [F18l0, F18l0F, e6]
        rw [decide_eq_true (by omega), inB_of hql, Int.toNat_natCast, List.getD_eq_getElem?_getD, hq, Option.getD_some, beq_self_eq_true]
        rfl
      | succ j ih =>
        intro i m q1 q2
        obtain ⟨m, rfl⟩ : ∃ q, m = q + 1 := ⟨m - 1, by omega⟩
        have hlt : i < v.names.length := by omega
        have hne : (v.names.getD (Int.toNat (i : Int)) (Ty.dflt .str) == x) = false := by
          rw [beq_eq_false_iff_ne, Int.toNat_natCast, List.getD_eq_getElem?_getD, List.getElem?_eq_getElem hlt, Option.getD_some]
          intro e
          have := nodup_at hd (by rw [List.getElem?_eq_getElem hlt, e]) hq
          omega
        simp only [F18l0, F18l0F, e6]
        rw [decide_eq_true (by omega), inB_of hlt, hne]
        simp only [cond_true, cond_false]
        rw [wrap64 (by omega) (by omega)]
        exact ih (i + 1) m (by omega) (by omega)
    exact key q 0 n (by omega) (by omega)

/-- One member of the second value. -/
def stepM (mg : V → V → V) (out : List Mem2) (q : Mem2) : List Mem2 :=
  if q.1 ∈ nms out then
    (if q.2.kind = 1 then out.filter (fun e => !(e.1 == q.1)) else out.map fun e => if e.1 = q.1 then (e.1, mg e.2 q.2) else e)
  else (if q.2.kind = 1 then out else out ++ [(q.1, mg none0 q.2)])

theorem del_eq {x : List UInt8} : ∀ {out : List Mem2} {k : Nat}, (nms out).Nodup → (nms out)[k]? = some x → out.take k ++ out.drop (k + 1) = out.filter (fun e => !(e.1 == x))
  | [], k, _, h => by simp [nms] at h
  | e :: out, 0, hd, h => by
    simp only [nms, List.map_cons, List.getElem?_cons_zero, Option.some.injEq] at h
    subst h
    simp only [nms, List.map_cons, List.nodup_cons] at hd
    rw [List.filter_cons]
    simp only [beq_self_eq_true, Bool.not_true, Bool.false_eq_true, if_false, List.take_zero, List.nil_append, List.drop_succ_cons, List.drop_zero]
    symm
    rw [List.filter_eq_self]
    intro a ha
    have : a.1 ≠ e.1 := fun he => hd.1 (he ▸ List.mem_map_of_mem ha)
    simp [this]
  | e :: out, k + 1, hd, h => by
    simp only [nms, List.map_cons, List.getElem?_cons_succ] at h
    simp only [nms, List.map_cons, List.nodup_cons] at hd
    have hm : x ∈ out.map (·.1) := List.mem_of_getElem? h
    have hne : e.1 ≠ x := fun he => hd.1 (he ▸ hm)
    rw [List.filter_cons]
    simp only [beq_eq_false_iff_ne.2 hne, Bool.not_false, if_true, List.take_succ_cons, List.drop_succ_cons, List.cons_append]
    rw [del_eq hd.2 h]

theorem set_eq {x : List UInt8} {o : V} {f : V → V} : ∀ {out : List Mem2} {k : Nat}, (nms out).Nodup → out[k]? = some (x, o) → out.set k (x, f o) = out.map fun e => if e.1 = x then (e.1, f e.2) else e
  | [], k, _, h => by simp at h
  | e :: out, 0, hd, h => by
    simp only [List.getElem?_cons_zero, Option.some.injEq] at h
    subst h
    simp only [nms, List.map_cons, List.nodup_cons] at hd
    simp only [List.set_cons_zero, List.map_cons, if_true, List.cons.injEq, true_and]
    symm
    refine (List.map_congr_left fun a ha => ?_).trans (List.map_id _)
    have : a.1 ≠ x := fun he => hd.1 (he ▸ List.mem_map_of_mem ha)
    simp [this]
  | e :: out, k + 1, hd, h => by
    simp only [List.getElem?_cons_succ] at h
    simp only [nms, List.map_cons, List.nodup_cons] at hd
    have hm : x ∈ out.map (·.1) := List.mem_map_of_mem (f := (·.1)) (List.mem_of_getElem? h)
    have hne : e.1 ≠ x := fun he => hd.1 (he ▸ hm)
    simp only [List.set_cons_succ, List.map_cons, if_neg hne, List.cons.injEq, true_and]
    exact set_eq hd.2 h

theorem nms_map {out : List Mem2} {x : List UInt8} {f : V → V} : nms (out.map fun e => if e.1 = x then (e.1, f e.2) else e) = nms out := by
  unfold nms
  rw [List.map_map]
  refine List.map_congr_left fun a _ => ?_
  simp only [Function.comp]
  split <;> rfl

theorem stepM_nodup {mg : V → V → V} {out : List Mem2} {q : Mem2} (hd : (nms out).Nodup) : (nms (stepM mg out q)).Nodup := by
  unfold stepM
  split
  · split
    · exact List.Pairwise.sublist (List.Sublist.map _ List.filter_sublist) hd
    · have := nms_map (out := out) (x := q.1) (f := fun o => mg o q.2)
      rw [this]; exact hd
  · rename_i h
    split
    · exact hd
    · rw [nms, List.map_append, List.nodup_append]
      refine ⟨hd, by simp, ?_⟩
      intro a ha b hb
      simp only [List.map_cons, List.map_nil, List.mem_singleton] at hb
      rw [hb]
      exact fun e => h (e ▸ ha)

theorem stepM_length {mg : V → V → V} {out : List Mem2} {q : Mem2} : (stepM mg out q).length ≤ out.length + 1 := by
  unfold stepM
  split
  · split
    · exact Nat.le_succ_of_le (List.length_filter_le _ _)
    · simp
  · split
    · omega
    · simp

/-- What is in it behind a step: what was, or what is of the member's name. -/
theorem stepM_mem {mg : V → V → V} {out : List Mem2} {q e : Mem2} (h : e ∈ stepM mg out q) : e ∈ out ∨ (e.1 = q.1 ∧ ((∃ o, (q.1, o) ∈ out ∧ e.2 = mg o q.2) ∨ e.2 = mg none0 q.2)) := by
  unfold stepM at h
  split at h
  · split at h
    · exact .inl (List.mem_filter.1 h).1
    · obtain ⟨a, ha, he⟩ := List.mem_map.1 h
      split at he
      · rename_i hq
        subst he
        exact .inr ⟨hq, .inl ⟨a.2, by rw [← hq]; exact ha, rfl⟩⟩
      · subst he; exact .inl ha
  · split at h
    · exact .inl h
    · rcases List.mem_append.1 h with h | h
      · exact .inl h
      · rw [List.mem_singleton] at h
        subst h
        exact .inr ⟨rfl, .inr rfl⟩

theorem stepM_set {mg : V → V → V} {out : List Mem2} {q : Mem2} {k : Nat} {o : V} (hd : (nms out).Nodup) (hk : out[k]? = some (q.1, o)) (hn : q.2.kind ≠ 1) :
    nms (stepM mg out q) = nms out ∧ kds (stepM mg out q) = (kds out).set k (mg o q.2) := by
  have hm : q.1 ∈ nms out := List.mem_map_of_mem (f := (·.1)) (List.mem_of_getElem? hk)
  unfold stepM
  rw [if_pos hm, if_neg hn]
  refine ⟨nms_map (f := fun o => mg o q.2), ?_⟩
  have := set_eq (f := fun o => mg o q.2) hd hk
  rw [← this]
  simp [kds, List.map_set]

theorem stepM_del {mg : V → V → V} {out : List Mem2} {q : Mem2} {k : Nat} {o : V} (hd : (nms out).Nodup) (hk : out[k]? = some (q.1, o)) (hn : q.2.kind = 1) :
    nms (stepM mg out q) = (nms out).take k ++ (nms out).drop (k + 1) ∧ kds (stepM mg out q) = (kds out).take k ++ (kds out).drop (k + 1) := by
  have hm : q.1 ∈ nms out := List.mem_map_of_mem (f := (·.1)) (List.mem_of_getElem? hk)
  have hk2 : (nms out)[k]? = some q.1 := by simp [nms, hk]
  unfold stepM
  rw [if_pos hm, if_pos hn, ← del_eq hd hk2]
  simp [nms, kds, List.map_take, List.map_drop]

theorem stepM_new {mg : V → V → V} {out : List Mem2} {q : Mem2} (hm : q.1 ∉ nms out) (hn : q.2.kind ≠ 1) : stepM mg out q = out ++ [(q.1, mg none0 q.2)] := by
  unfold stepM; rw [if_neg hm, if_neg hn]
theorem stepM_skip {mg : V → V → V} {out : List Mem2} {q : Mem2} (hm : q.1 ∉ nms out) (hn : q.2.kind = 1) : stepM mg out q = out := by
  unfold stepM; rw [if_neg hm, if_pos hn]

/-- The loop of patch.Merge. -/
theorem merge_loop {self : V → V → Option V} {mg : V → V → V} {n : Nat} {p : V} (hpl : p.names.length = p.kids.length) (hpd : p.names.Nodup) (hp4 : p.kids.length ≤ 500) (hn : 2100 ≤ n)
    (hnone : ∀ q ∈ prs p, self none0 q.2 = some (mg none0 q.2)) :
    ∀ (j i m : Nat) (out : List Mem2), i + j = p.kids.length → j < m → (nms out).Nodup → out.length ≤ 500 + i → (∀ e ∈ out, ∀ q ∈ (prs p).drop i, q.1 = e.1 → self e.2 q.2 = some (mg e.2 q.2)) →
      F15l1 self n m p.kids (p.kids.length : Int) (i : Int) p.kind p.b p.n p.s p.names p.kids 0 false 0 [] [] [] 6 false 0 [] (nms out) (kds out) =
        some ⟨6, false, 0, [], nms (((prs p).drop i).foldl (stepM mg) out), kds (((prs p).drop i).foldl (stepM mg) out)⟩ := by
  have hlen : (prs p).length = p.kids.length := by simp [prs, hpl]
  have hnp : (nms (prs p)).Nodup := by rw [nms_prs hpl]; exact hpd
  intro j
  induction j with
  | zero =>
    intro i m out q1 q2 q3 q4 q5
    obtain ⟨m, rfl⟩ : ∃ q, m = q + 1 := ⟨m - 1, by omega⟩
    simp only [F15l1, F15l1F]
    rw [decide_eq_false (by omega), List.drop_eq_nil_of_le (by omega)]
    rfl
  | succ j ih =>
    intro i m out q1 q2 q3 q4 q5
    obtain ⟨m, rfl⟩ : ∃ q, m = q + 1 := ⟨m - 1, by omega⟩
    have hlt : i < p.kids.length := by omega
    have hlt2 : i < p.names.length := by omega
    have hlt3 : i < (prs p).length := by omega
    have hq1 : (prs p)[i] = (p.names[i], p.kids[i]) := by simp [prs]
    have hgn : p.names.getD i (Ty.dflt .str) = p.names[i] := by rw [List.getD_eq_getElem?_getD, List.getElem?_eq_getElem hlt2, Option.getD_some]
    have hgk : p.kids.getD i (Ty.dflt .value) = p.kids[i] := by rw [List.getD_eq_getElem?_getD, List.getElem?_eq_getElem hlt, Option.getD_some]
    rw [List.drop_eq_getElem_cons hlt3, List.foldl_cons, hq1]
    generalize hx : p.names[i] = x at *
    generalize hkk : p.kids[i] = kk at *
    have hin : (x, kk) ∈ prs p := hq1 ▸ List.getElem_mem hlt3
    have hrest : ∀ q ∈ (prs p).drop (i + 1), q.1 ≠ x := by
      intro q hq he
      have h1 : (nms ((prs p).drop i)).Nodup := List.Pairwise.sublist (List.Sublist.map _ (List.drop_sublist _ _)) hnp
      rw [List.drop_eq_getElem_cons hlt3, hq1] at h1
      simp only [nms, List.map_cons, List.nodup_cons] at h1
      exact h1.1 (he ▸ List.mem_map_of_mem (f := (·.1)) hq)
    have hdrop : ∀ q ∈ (prs p).drop (i + 1), q ∈ (prs p).drop i := fun q hq => by
      rw [List.drop_eq_getElem_cons hlt3]; exact List.mem_cons_of_mem _ hq
    have hhead : (x, kk) ∈ (prs p).drop i := by rw [List.drop_eq_getElem_cons hlt3, hq1]; exact List.mem_cons_self
    -- what follows, from whatever the step leaves
    have next : F15l1 self n m p.kids (p.kids.length : Int) ((i + 1 : Nat) : Int) p.kind p.b p.n p.s p.names p.kids 0 false 0 [] [] [] 6 false 0 [] (nms (stepM mg out (x, kk))) (kds (stepM mg out (x, kk))) =
        some ⟨6, false, 0, [], nms (((prs p).drop (i + 1)).foldl (stepM mg) (stepM mg out (x, kk))), kds (((prs p).drop (i + 1)).foldl (stepM mg) (stepM mg out (x, kk)))⟩ := by
      refine ih (i + 1) m _ (by omega) (by omega) (stepM_nodup q3) (Nat.le_trans stepM_length (by omega)) ?_
      intro e he q hq hqe
      rcases stepM_mem he with he | ⟨he, _⟩
      · exact q5 e he q (hdrop q hq) hqe
      · exact absurd (hqe.trans he) (hrest q hq)
    have hw : IntKind.wrap .i64 ((i : Int) + 1) = ((i + 1 : Nat) : Int) := by rw [wrap64 (by omega) (by omega)]; omega
    simp only [F15l1, F15l1F]
    rw [decide_eq_true (by omega), inB_of hlt, decide_eq_false (by omega), inB_of hlt2, Int.toNat_natCast, hgn, hgk]
    simp only [cond_true, cond_false]
    rw [F29_pos q3 (by rw [nms_length]; omega) (by omega), kds_length]
    simp only
    rcases pos_cases q3 x with ⟨h1, h2⟩ | ⟨k, hkl, h2, hk⟩
    · -- a new name
      rw [h2, decide_eq_false (by omega)]
      simp only [cond_false]
      by_cases hnull : kk.kind = 1
      · rw [show (kk.kind == 1) = true by simp [hnull]]
        simp only [cond_true, F15j2]
        rw [decide_eq_false (by omega)]
        simp only [cond_false]
        rw [show (kk.kind == 1) = true by simp [hnull]]
        simp only [cond_true]
        rw [hw]
        rw [stepM_skip h1 hnull] at next ⊢
        exact next
      · rw [show (kk.kind == 1) = false by simp [hnull]]
        simp only [cond_false, F15j2]
        rw [show (kk.kind == 1) = false by simp [hnull], decide_eq_false (by omega), inB_of hlt2, Int.toNat_natCast, hgn]
        simp only [cond_true, cond_false, V.eta]
        have hs : self ⟨0, false, 0, [], [], []⟩ kk = some (mg none0 kk) := hnone _ hin
        have b1 : ((nms out).length + 1) * 16 ≤ maxRoom := by rw [nms_length]; simp only [maxRoom]; omega
        have b2 : (nms out).length + 1 ≤ maxRoom := by rw [nms_length]; simp only [maxRoom]; omega
        have b3 : ((kds out).length + 1) * 88 ≤ maxRoom := by rw [kds_length]; simp only [maxRoom]; omega
        have b4 : (kds out).length + 1 ≤ maxRoom := by rw [kds_length]; simp only [maxRoom]; omega
        simp only [List.length_cons, List.length_nil, Nat.zero_add, decide_eq_true b1, decide_eq_true b2, decide_eq_true b3, decide_eq_true b4, Bool.and_true, cond_true, hs, hw]
        rw [stepM_new h1 hnull] at next ⊢
        rw [← next]
        simp [nms, kds]
    · -- a name that is there
      rw [nms_length] at hkl
      obtain ⟨o, ho⟩ : ∃ o, out[k]? = some (x, o) := by
        rw [nms, List.getElem?_map, List.getElem?_eq_getElem hkl] at hk
        simp only [Option.map_some, Option.some.injEq] at hk
        exact ⟨out[k].2, by rw [List.getElem?_eq_getElem hkl, ← hk]⟩
      have hok : (kds out).getD k (Ty.dflt .value) = o := by simp [kds, List.getD_eq_getElem?_getD, ho]
      rw [h2, decide_eq_false (by omega)]
      simp only [cond_false]
      by_cases hnull : kk.kind = 1
      · rw [show (kk.kind == 1) = true by simp [hnull]]
        simp only [cond_true, F15j2]
        rw [decide_eq_true (by omega)]
        have hk1 : IntKind.wrap .i64 ((k : Int) + 1) = ((k + 1 : Nat) : Int) := by rw [wrap64 (by omega) (by omega)]; omega
        simp only [cond_true, hk1, Int.toNat_natCast, hw]
        have d1 : (k : Int) ≤ ((k + 1 : Nat) : Int) := by omega
        have d2 : ((k + 1 : Nat) : Int) ≤ ((nms out).length : Int) := by rw [nms_length]; omega
        have d3 : ((k + 1 : Nat) : Int) ≤ ((kds out).length : Int) := by rw [kds_length]; omega
        simp only [decide_eq_true d1, decide_eq_true d2, decide_eq_true d3, Bool.and_true, cond_true]
        obtain ⟨e1, e2⟩ := stepM_del (mg := mg) (q := (x, kk)) q3 ho hnull
        rw [← next, e1, e2]
      · rw [show (kk.kind == 1) = false by simp [hnull]]
        simp only [cond_false, F15j2]
        rw [show (kk.kind == 1) = false by simp [hnull], decide_eq_true (by omega), inB_of (by rw [kds_length]; exact hkl), Int.toNat_natCast, hok]
        simp only [cond_true, cond_false, V.eta]
        have hs : self o kk = some (mg o kk) := q5 (x, o) (List.mem_of_getElem? ho) (x, kk) hhead rfl
        simp only [hs, hw]
        obtain ⟨e1, e2⟩ := stepM_set (mg := mg) (q := (x, kk)) q3 ho hnull
        rw [← next, e1, e2]

/-! ### What the members come to -/

theorem fm_congr {α β : Type} {f g : α → Option β} : ∀ {l : List α}, (∀ a ∈ l, f a = g a) → l.filterMap f = l.filterMap g
  | [], _ => rfl
  | a :: l, h => by rw [List.filterMap_cons, List.filterMap_cons, h a (by simp), fm_congr (l := l) fun b hb => h b (by simp [hb])]

def look (ps : List Mem2) (x : List UInt8) : Option V := (ps.find? fun q => q.1 == x).map (·.2)

def wasM (mg : V → V → V) (ps : List Mem2) (e : Mem2) : Option Mem2 :=
  match look ps e.1 with
  | none => some e
  | some k => if k.kind = 1 then none else some (e.1, mg e.2 k)

def newM (mg : V → V → V) (ns : List (List UInt8)) (q : Mem2) : Option Mem2 := if q.2.kind ≠ 1 ∧ q.1 ∉ ns then some (q.1, mg none0 q.2) else none

theorem look_cons_ne {q : Mem2} {ps : List Mem2} {x : List UInt8} (h : q.1 ≠ x) : look (q :: ps) x = look ps x := by
  simp [look, List.find?_cons, beq_eq_false_iff_ne.2 h]
theorem look_cons_eq {q : Mem2} {ps : List Mem2} : look (q :: ps) q.1 = some q.2 := by simp [look]
theorem look_none {ps : List Mem2} {x : List UInt8} (h : x ∉ nms ps) : look ps x = none := by
  simp only [look, Option.map_eq_none_iff, List.find?_eq_none]
  intro q hq he
  exact h (by rw [← eq_of_beq he]; exact List.mem_map_of_mem (f := (·.1)) hq)

theorem foldl_stepM {mg : V → V → V} : ∀ (ps out : List Mem2), (nms ps).Nodup → (nms out).Nodup → ps.foldl (stepM mg) out = out.filterMap (wasM mg ps) ++ ps.filterMap (newM mg (nms out))
  | [], out, _, _ => by
    simp only [List.foldl_nil, List.filterMap_nil, List.append_nil]
    symm
    rw [show wasM mg [] = some from funext fun e => by simp [wasM, look]]
    exact List.filterMap_some
  | q :: ps, out, hp, ho => by
    rw [List.foldl_cons, foldl_stepM ps _ (by simp only [nms, List.map_cons, List.nodup_cons] at hp; exact hp.2) (stepM_nodup ho)]
    have hq : q.1 ∉ nms ps := by simp only [nms, List.map_cons, List.nodup_cons] at hp; exact hp.1
    have hne : ∀ r ∈ ps, r.1 ≠ q.1 := fun r hr he => hq (he ▸ List.mem_map_of_mem (f := (·.1)) hr)
    by_cases hm : q.1 ∈ nms out
    · -- it is there
      have hB : newM mg (nms out) q = none := by simp [newM, hm]
      rw [List.filterMap_cons, hB]
      have hnm : ps.filterMap (newM mg (nms (stepM mg out q))) = ps.filterMap (newM mg (nms out)) := by
        refine fm_congr fun r hr => ?_
        have hmem : r.1 ∈ nms (stepM mg out q) ↔ r.1 ∈ nms out := by
          unfold stepM
          rw [if_pos hm]
          split
          · constructor
            · intro h
              obtain ⟨a, ha, he⟩ := List.mem_map.1 h
              exact List.mem_map.2 ⟨a, (List.mem_filter.1 ha).1, he⟩
            · intro h
              obtain ⟨a, ha, he⟩ := List.mem_map.1 h
              refine List.mem_map.2 ⟨a, List.mem_filter.2 ⟨ha, ?_⟩, he⟩
              have : a.1 ≠ q.1 := he ▸ hne r hr
              simp [this]
          · have := nms_map (out := out) (x := q.1) (f := fun o => mg o q.2)
            rw [this]
        simp only [newM, hmem]
      rw [hnm]
      congr 1
      unfold stepM
      rw [if_pos hm]
      split
      · rename_i hnull
        rw [List.filterMap_filter]
        refine fm_congr fun a ha => ?_
        by_cases he : a.1 = q.1
        · simp [wasM, he, look_cons_eq, hnull]
        · simp [wasM, he, look_cons_ne (Ne.symm he)]
      · rename_i hnull
        rw [List.filterMap_map]
        refine fm_congr fun a ha => ?_
        simp only [Function.comp]
        by_cases he : a.1 = q.1
        · rw [if_pos he]
          simp [wasM, he, look_cons_eq, hnull, look_none hq]
        · rw [if_neg he]
          simp [wasM, look_cons_ne (Ne.symm he)]
    · have hA : out.filterMap (wasM mg (q :: ps)) = out.filterMap (wasM mg ps) := by
        refine fm_congr fun a ha => ?_
        have he : q.1 ≠ a.1 := fun he => hm (he ▸ List.mem_map_of_mem (f := (·.1)) ha)
        simp [wasM, look_cons_ne he]
      rw [hA]
      by_cases hnull : q.2.kind = 1
      · rw [stepM_skip hm hnull, List.filterMap_cons, show newM mg (nms out) q = none by simp [newM, hnull]]
      · rw [show (q :: ps).filterMap (newM mg (nms out)) = (q.1, mg none0 q.2) :: ps.filterMap (newM mg (nms out)) by rw [List.filterMap_cons, show newM mg (nms out) q = some (q.1, mg none0 q.2) by simp [newM, hnull, hm]], stepM_new hm hnull, List.filterMap_append]
        have h1 : [(q.1, mg none0 q.2)].filterMap (wasM mg ps) = [(q.1, mg none0 q.2)] := by simp [wasM, look_none hq]
        rw [h1]
        have h2 : ps.filterMap (newM mg (nms (out ++ [(q.1, mg none0 q.2)]))) = ps.filterMap (newM mg (nms out)) := by
          refine fm_congr fun r hr => ?_
          have : r.1 ∈ nms (out ++ [(q.1, mg none0 q.2)]) ↔ r.1 ∈ nms out := by
            simp [nms, hne r hr]
          simp only [newM, this]
        rw [h2, List.append_assoc]
        rfl

/-- An object of these members. -/
def objM (l : List Mem2) : V := ⟨6, false, 0, [], nms l, kds l⟩
/-- The members that are there to begin with. -/
def oldM (x : V) : List Mem2 := if x.kind = 6 then prs x else []
/-- What comes of two values, the second an object. -/
def mrgM (mg : V → V → V) (x p : V) : List Mem2 := (oldM x).filterMap (wasM mg (prs p)) ++ (prs p).filterMap (newM mg (nms (oldM x)))


end Go.Proofs.Ytdkelhdlfeendaa.Ab.Pm

/- The document's Merge of two right values comes to the same members. -/
namespace Go.Proofs.Ytdkelhdlfeendaa.Ab.Pm
open Go Go.RowKit Go.Proofs
set_option linter.unusedSimpArgs false
set_option linter.unusedVariables false

/-- Where the last one stands. -/
def lp (x : List UInt8) : List (List UInt8) → Int → Int → Int
  | [], _, a => a
  | y :: l, j, a => lp x l (j + 1) (bif y == x then j else a)

theorem lp_none {x : List UInt8} : ∀ {l : List (List UInt8)} {j a : Int}, x ∉ l → lp x l j a = a
  | [], _, _, _ => rfl
  | y :: l, j, a, h => by
    simp only [List.mem_cons, not_or] at h
    rw [lp, show (y == x) = false by rw [beq_eq_false_iff_ne]; exact Ne.symm h.1]
    exact lp_none h.2

theorem lp_at {x : List UInt8} : ∀ {l : List (List UInt8)} {k : Nat} {j a : Int}, l.Nodup → l[k]? = some x → lp x l j a = j + (k : Int)
  | [], k, _, _, _, h => by simp at h
  | y :: l, 0, j, a, hd, h => by
    simp only [List.getElem?_cons_zero, Option.some.injEq] at h
    subst h
    rw [lp, beq_self_eq_true, lp_none (List.nodup_cons.1 hd).1]
    simp
  | y :: l, k + 1, j, a, hd, h => by
    simp only [List.getElem?_cons_succ] at h
    rw [lp, lp_at (List.nodup_cons.1 hd).2 h]
    omega

theorem lp_pos {x : List UInt8} {l : List (List UInt8)} (hd : l.Nodup) : lp x l 0 (-1) = pos l x := by
  rcases pos_cases hd x with ⟨h1, h2⟩ | ⟨k, _, h2, hk⟩
  · rw [h2, lp_none h1]
  · rw [h2, lp_at hd hk]; omega

abbrev Nx := Int → Int → Bool → Int → List UInt8 → List (List UInt8) → List V → Int → Bool → Int → List UInt8 → List (List UInt8) → List V → Int → Bool → Int → List UInt8 → List (List UInt8) → List V → Option V

theorem l3_ok {self : V → V → Option V} {n : Nat} {rF : Nx} {p : V} {i : Nat} {x : List UInt8} (hi : i < p.names.length) (hx : p.names.getD i (Ty.dflt .str) = x) {ks : List V} :
    ∀ (suf pre : List (List UInt8)) (m : Nat) (a : Int), suf.length < m → (pre ++ suf).length ≤ 2000 →
      F16l3 self n rF m (i : Int) a (pre.length : Int) p.kind p.b p.n p.s p.names p.kids 0 false 0 [] [] [] 6 false 0 [] (pre ++ suf) ks =
        (bif inB (i : Int) p.kids.length then
          (bif ((p.kids.getD (Int.toNat (i : Int)) (Ty.dflt .value)).kind == 1) then F16j2 self n rF (i : Int) (lp x suf (pre.length : Int) a) (decide (lp x suf (pre.length : Int) a ≥ 0)) p.kind p.b p.n p.s p.names p.kids 0 false 0 [] [] [] 6 false 0 [] (pre ++ suf) ks
          else F16j2 self n rF (i : Int) (lp x suf (pre.length : Int) a) false p.kind p.b p.n p.s p.names p.kids 0 false 0 [] [] [] 6 false 0 [] (pre ++ suf) ks)
        else none)
  | [], pre, m, a, hm, hl => by
    obtain ⟨m, rfl⟩ : ∃ q, m = q + 1 := ⟨m - 1, by omega⟩
    simp only [F16l3, F16l3F, List.append_nil]
    rw [decide_eq_false (by omega)]
    rfl
  | y :: suf, pre, m, a, hm, hl => by
    obtain ⟨m, rfl⟩ : ∃ q, m = q + 1 := ⟨m - 1, by omega⟩
    have e : pre ++ y :: suf = (pre ++ [y]) ++ suf := by simp
    have ih := l3_ok (self := self) (n := n) (rF := rF) hi hx (ks := ks) suf (pre ++ [y]) m (bif y == x then (pre.length : Int) else a) (by simp at hm; omega) (by rw [← e]; exact hl)
    rw [← e] at ih
    simp only [List.length_append, List.length_singleton, Int.natCast_add, Int.natCast_one] at ih
    have hlen : pre.length ≤ 2000 := by simp at hl; omega
    simp only [F16l3, F16l3F]
    rw [lt_pre', inb_pre, get_pre, inB_of hi, Int.toNat_natCast, hx, wrap64 (by omega) (by omega)]
    simp only [cond_true, lp]
    rw [Int.toNat_natCast] at ih
    refine Eq.trans ?_ ih
    cases (y == x) <;> rfl

theorem cutAll {α : Type} {l : List α} {k : Nat} (hk : k < l.length) (hl : l.length ≤ 5000) : (cutB 0 (k : Int) l.length && true) = true ∧ (cutB (IntKind.wrap .i64 ((k : Int) + 1)) (l.length : Int) l.length && true) = true ∧
    (([] : List α) ++ (l.drop (Int.toNat 0)).take (Int.toNat (k : Int) - Int.toNat 0)) = l.take k ∧ (l.drop (Int.toNat (IntKind.wrap .i64 ((k : Int) + 1)))).take (Int.toNat (l.length : Int) - Int.toNat (IntKind.wrap .i64 ((k : Int) + 1))) = l.drop (k + 1) := by
  have hw : IntKind.wrap .i64 ((k : Int) + 1) = ((k + 1 : Nat) : Int) := by rw [wrap64 (by omega) (by omega)]; omega
  refine ⟨cutB_of (by omega) (by omega) (by omega), ?_, ?_, ?_⟩
  · rw [hw]; exact cutB_of (by omega) (by omega) (by omega)
  · simp
  · rw [hw, Int.toNat_natCast, Int.toNat_natCast, List.take_of_length_le (by simp)]

theorem merge_loop16 {self : V → V → Option V} {mg : V → V → V} {n : Nat} {p : V} (hpl : p.names.length = p.kids.length) (hpd : p.names.Nodup) (hp4 : p.kids.length ≤ 500) (hn : 2100 ≤ n)
    (hnone : ∀ q ∈ prs p, self none0 q.2 = some (mg none0 q.2)) :
    ∀ (j i m : Nat) (out : List Mem2), i + j = p.kids.length → j < m → (nms out).Nodup → out.length ≤ 500 + i → (∀ e ∈ out, ∀ q ∈ (prs p).drop i, q.1 = e.1 → self e.2 q.2 = some (mg e.2 q.2)) →
      F16l1 self n m (i : Int) p.kind p.b p.n p.s p.names p.kids 0 false 0 [] [] [] 6 false 0 [] (nms out) (kds out) =
        some ⟨6, false, 0, [], nms (((prs p).drop i).foldl (stepM mg) out), kds (((prs p).drop i).foldl (stepM mg) out)⟩ := by
  have hlen : (prs p).length = p.kids.length := by simp [prs, hpl]
  have hnp : (nms (prs p)).Nodup := by rw [nms_prs hpl]; exact hpd
  intro j
  induction j with
  | zero =>
    intro i m out q1 q2 q3 q4 q5
    obtain ⟨m, rfl⟩ : ∃ q, m = q + 1 := ⟨m - 1, by omega⟩
    simp only [F16l1, F16l1F]
    rw [decide_eq_false (by omega), List.drop_eq_nil_of_le (by omega)]
    rfl
  | succ j ih =>
    intro i m out q1 q2 q3 q4 q5
    obtain ⟨m, rfl⟩ : ∃ q, m = q + 1 := ⟨m - 1, by omega⟩
    have hlt : i < p.kids.length := by omega
    have hlt2 : i < p.names.length := by omega
    have hlt3 : i < (prs p).length := by omega
    have hq1 : (prs p)[i] = (p.names[i], p.kids[i]) := by simp [prs]
    have hgn : p.names.getD i (Ty.dflt .str) = p.names[i] := by rw [List.getD_eq_getElem?_getD, List.getElem?_eq_getElem hlt2, Option.getD_some]
    have hgk : p.kids.getD i (Ty.dflt .value) = p.kids[i] := by rw [List.getD_eq_getElem?_getD, List.getElem?_eq_getElem hlt, Option.getD_some]
    rw [List.drop_eq_getElem_cons hlt3, List.foldl_cons, hq1]
    generalize hx : p.names[i] = x at *
    generalize hkk : p.kids[i] = kk at *
    have hin : (x, kk) ∈ prs p := hq1 ▸ List.getElem_mem hlt3
    have hrest : ∀ q ∈ (prs p).drop (i + 1), q.1 ≠ x := by
      intro q hq he
      have h1 : (nms ((prs p).drop i)).Nodup := List.Pairwise.sublist (List.Sublist.map _ (List.drop_sublist _ _)) hnp
      rw [List.drop_eq_getElem_cons hlt3, hq1] at h1
      simp only [nms, List.map_cons, List.nodup_cons] at h1
      exact h1.1 (he ▸ List.mem_map_of_mem (f := (·.1)) hq)
    have hdrop : ∀ q ∈ (prs p).drop (i + 1), q ∈ (prs p).drop i := fun q hq => by
      rw [List.drop_eq_getElem_cons hlt3]; exact List.mem_cons_of_mem _ hq
    have hhead : (x, kk) ∈ (prs p).drop i := by rw [List.drop_eq_getElem_cons hlt3, hq1]; exact List.mem_cons_self
    have next : F16l1 self n m ((i + 1 : Nat) : Int) p.kind p.b p.n p.s p.names p.kids 0 false 0 [] [] [] 6 false 0 [] (nms (stepM mg out (x, kk))) (kds (stepM mg out (x, kk))) =
        some ⟨6, false, 0, [], nms (((prs p).drop (i + 1)).foldl (stepM mg) (stepM mg out (x, kk))), kds (((prs p).drop (i + 1)).foldl (stepM mg) (stepM mg out (x, kk)))⟩ := by
      refine ih (i + 1) m _ (by omega) (by omega) (stepM_nodup q3) (Nat.le_trans stepM_length (by omega)) ?_
      intro e he q hq hqe
      rcases stepM_mem he with he | ⟨he, _⟩
      · exact q5 e he q (hdrop q hq) hqe
      · exact absurd (hqe.trans he) (hrest q hq)
    have hw : IntKind.wrap .i64 ((i : Int) + 1) = ((i + 1 : Nat) : Int) := by rw [wrap64 (by omega) (by omega)]; omega
    have hl3 := l3_ok (self := self) (n := n) (rF := F16l1 self n m) (ks := kds out) hlt2 hgn (nms out) [] n (-1) (by rw [nms_length]; omega) (by simp [nms_length]; omega)
    simp only [List.nil_append, List.length_nil, Int.natCast_zero, lp_pos q3] at hl3
    simp only [F16l1, F16l1F]
    rw [decide_eq_true (by omega)]
    simp only [cond_true]
    refine hl3.trans ?_
    rw [inB_of hlt, Int.toNat_natCast, hgk]
    simp only [cond_true]
    rcases pos_cases q3 x with ⟨h1, h2⟩ | ⟨k, hkl, h2, hk⟩
    · -- a new name
      rw [h2]
      by_cases hnull : kk.kind = 1
      · have e1 : (kk.kind == 1) = true := by simp [hnull]
        simp only [e1, cond_true, F16j2]
        rw [decide_eq_false (by omega)]
        simp only [cond_true, cond_false, inB_of hlt, Int.toNat_natCast, hgk, e1]
        rw [hw]
        rw [stepM_skip h1 hnull] at next ⊢
        exact next
      · have e1 : (kk.kind == 1) = false := by simp [hnull]
        simp only [e1, cond_false, F16j2]
        rw [inB_of hlt, Int.toNat_natCast, hgk, e1, decide_eq_false (by omega), inB_of hlt2, hgn]
        have hs : self ⟨0, false, 0, [], [], []⟩ kk = some (mg none0 kk) := hnone _ hin
        have b1 : ((nms out).length + 1) * 16 ≤ maxRoom := by rw [nms_length]; simp only [maxRoom]; omega
        have b2 : (nms out).length + 1 ≤ maxRoom := by rw [nms_length]; simp only [maxRoom]; omega
        have b3 : ((kds out).length + 1) * 88 ≤ maxRoom := by rw [kds_length]; simp only [maxRoom]; omega
        have b4 : (kds out).length + 1 ≤ maxRoom := by rw [kds_length]; simp only [maxRoom]; omega
        simp only [cond_true, cond_false, List.length_cons, List.length_nil, Nat.zero_add, decide_eq_true b1, decide_eq_true b2, decide_eq_true b3, decide_eq_true b4, Bool.and_true, cond_true, hs, hw]
        rw [stepM_new h1 hnull] at next ⊢
        rw [← next]
        simp [nms, kds]
    · -- a name that is there
      rw [nms_length] at hkl
      obtain ⟨o, ho⟩ : ∃ o, out[k]? = some (x, o) := by
        rw [nms, List.getElem?_map, List.getElem?_eq_getElem hkl] at hk
        simp only [Option.map_some, Option.some.injEq] at hk
        exact ⟨out[k].2, by rw [List.getElem?_eq_getElem hkl, ← hk]⟩
      have hok : (kds out).getD k (Ty.dflt .value) = o := by simp [kds, List.getD_eq_getElem?_getD, ho]
      rw [h2]
      by_cases hnull : kk.kind = 1
      · have e1 : (kk.kind == 1) = true := by simp [hnull]
        simp only [e1, cond_true, F16j2]
        rw [decide_eq_true (by omega)]
        obtain ⟨c1, c2, c3, c4⟩ := cutAll (l := nms out) (k := k) (by rw [nms_length]; exact hkl) (by rw [nms_length]; omega)
        obtain ⟨d1, d2, d3, d4⟩ := cutAll (l := kds out) (k := k) (by rw [kds_length]; exact hkl) (by rw [kds_length]; omega)
        have g1 : ∀ c, (List.nil (α := List UInt8)).length + ((List.drop (Int.toNat 0) (nms out)).take (Int.toNat (k : Int) - Int.toNat 0)).length ≤ c ↔ ((nms out).take k).length ≤ c := by
          intro c; rw [← c3]; simp
        have g2 : ∀ c, (List.nil (α := V)).length + ((List.drop (Int.toNat 0) (kds out)).take (Int.toNat (k : Int) - Int.toNat 0)).length ≤ c ↔ ((kds out).take k).length ≤ c := by
          intro c; rw [← d3]; simp
        simp only [c1, c2, d1, d2, cond_true, c3, c4, d3, d4, hw]
        have l1 : ((nms out).take k).length ≤ 2000 := by simp [nms_length]; omega
        have l2 : ((nms out).drop (k + 1)).length ≤ 2000 := by simp [nms_length]; omega
        have l3 : ((kds out).take k).length ≤ 2000 := by simp [kds_length]; omega
        have l4 : ((kds out).drop (k + 1)).length ≤ 2000 := by simp [kds_length]; omega
        have m1 : (List.drop (Int.toNat 0) (nms out)).take (Int.toNat (k : Int) - Int.toNat 0) = (nms out).take k := by rw [← c3]; simp
        have m2 : (List.drop (Int.toNat 0) (kds out)).take (Int.toNat (k : Int) - Int.toNat 0) = (kds out).take k := by rw [← d3]; simp
        rw [m1, m2, decide_eq_true (show (List.nil (α := List UInt8)).length + ((nms out).take k).length ≤ maxRoom by simp only [maxRoom, List.length_nil]; omega), decide_eq_true (show ((List.nil (α := List UInt8)).length + ((nms out).take k).length) * 16 ≤ maxRoom by simp only [maxRoom, List.length_nil]; omega),
          decide_eq_true (show ((nms out).take k).length + ((nms out).drop (k + 1)).length ≤ maxRoom by simp only [maxRoom]; omega), decide_eq_true (show (((nms out).take k).length + ((nms out).drop (k + 1)).length) * 16 ≤ maxRoom by simp only [maxRoom]; omega),
          decide_eq_true (show (List.nil (α := V)).length + ((kds out).take k).length ≤ maxRoom by simp only [maxRoom, List.length_nil]; omega), decide_eq_true (show ((List.nil (α := V)).length + ((kds out).take k).length) * 88 ≤ maxRoom by simp only [maxRoom, List.length_nil]; omega),
          decide_eq_true (show ((kds out).take k).length + ((kds out).drop (k + 1)).length ≤ maxRoom by simp only [maxRoom]; omega), decide_eq_true (show (((kds out).take k).length + ((kds out).drop (k + 1)).length) * 88 ≤ maxRoom by simp only [maxRoom]; omega)]
        obtain ⟨e1, e2⟩ := stepM_del (mg := mg) (q := (x, kk)) q3 ho hnull
        rw [← next, e1, e2]
        rfl
      · have e1 : (kk.kind == 1) = false := by simp [hnull]
        simp only [e1, cond_false, F16j2]
        have b3 : ((List.nil (α := V)).length + (kds out).length) * 88 ≤ maxRoom := by rw [kds_length]; simp only [maxRoom, List.length_nil]; omega
        have b4 : (List.nil (α := V)).length + (kds out).length ≤ maxRoom := by rw [kds_length]; simp only [maxRoom, List.length_nil]; omega
        have hkk2 : k < (kds out).length := by rw [kds_length]; exact hkl
        rw [inB_of hlt, Int.toNat_natCast, hgk, e1, decide_eq_true (show (k : Int) ≥ 0 by omega), decide_eq_true b3, decide_eq_true b4, inB_of hkk2, Int.toNat_natCast, hok, List.nil_append, inB_of hkk2]
        simp only [cond_true, cond_false, Bool.and_true]
        have hs : self o kk = some (mg o kk) := q5 (x, o) (List.mem_of_getElem? ho) (x, kk) hhead rfl
        simp only [hs, hw]
        obtain ⟨e1, e2⟩ := stepM_set (mg := mg) (q := (x, kk)) q3 ho hnull
        rw [← next, e1, e2]

end Go.Proofs.Ytdkelhdlfeendaa.Ab.Pm

/- Both Merges of two right values, told by one plain function; done twice it is as done once. -/
namespace Go.Proofs.Ytdkelhdlfeendaa.Ab.Pm
open Go Go.RowKit Go.Proofs
set_option linter.unusedSimpArgs false
set_option linter.unusedVariables false

/-- What comes of two values. -/
def mrg : Nat → V → V → V
  | 0, _, p => p
  | d + 1, x, p => if p.kind = 6 then objM (mrgM (mrg d) x p) else p

theorem prs_okv {B d : Nat} {p : V} (hp : OKV B (d + 1) p) {q : Mem2} (h : q ∈ prs p) : OKV B d q.2 := hp.2.2.2 _ (List.of_mem_zip h).2

theorem none0_okv {A B d : Nat} {k : V} (h : OKV B d k) : OKV A d none0 := by
  cases d with
  | zero => exact h.elim
  | succ d => exact ⟨by simp [none0], by simp [none0], fun h => by simp [none0] at h, by simp [none0]⟩

theorem oldM_nodup {A d : Nat} {x : V} (hx : OKV A (d + 1) x) : (nms (oldM x)).Nodup := by
  unfold oldM
  split
  · rename_i hk
    rw [nms_prs (hx.2.2.1 hk).1]; exact (hx.2.2.1 hk).2
  · simp [nms]

theorem oldM_length {A d : Nat} {x : V} (hx : OKV A (d + 1) x) : (oldM x).length ≤ A := by
  unfold oldM
  split
  · have h1 := hx.1; have h2 := hx.2.1; simp [prs]; omega
  · simp

theorem oldM_okv {A d : Nat} {x : V} (hx : OKV A (d + 1) x) {e : Mem2} (h : e ∈ oldM x) : OKV A d e.2 := by
  unfold oldM at h
  split at h
  · exact prs_okv hx h
  · cases h

theorem look_mem {ps : List Mem2} {x : List UInt8} {k : V} (h : look ps x = some k) : (x, k) ∈ ps := by
  simp only [look, Option.map_eq_some_iff] at h
  obtain ⟨q, hq, rfl⟩ := h
  have h1 := List.mem_of_find?_eq_some hq
  have h3 := List.find?_some hq
  have h2 := eq_of_beq h3
  rw [← h2]
  exact h1

theorem look_in {ps : List Mem2} : ∀ {q : Mem2}, (nms ps).Nodup → q ∈ ps → look ps q.1 = some q.2 := by
  induction ps with
  | nil => intro q _ h; cases h
  | cons a ps ih =>
    intro q hd h
    simp only [nms, List.map_cons, List.nodup_cons] at hd
    rcases List.mem_cons.1 h with rfl | h
    · exact look_cons_eq
    · rw [look_cons_ne (fun he => hd.1 (he ▸ List.mem_map_of_mem (f := (·.1)) h))]
      exact ih hd.2 h

theorem foldl_nodup {mg : V → V → V} : ∀ (ps out : List Mem2), (nms out).Nodup → (nms (ps.foldl (stepM mg) out)).Nodup
  | [], _, h => h
  | q :: ps, out, h => foldl_nodup ps _ (stepM_nodup h)

theorem mrgM_nodup {A B d : Nat} {mg : V → V → V} {x p : V} (hx : OKV A (d + 1) x) (hp : OKV B (d + 1) p) (hk : p.kind = 6) : (nms (mrgM mg x p)).Nodup := by
  obtain ⟨p1, p2⟩ := hp.2.2.1 hk
  unfold mrgM
  rw [← foldl_stepM _ _ (by rw [nms_prs p1]; exact p2) (oldM_nodup hx)]
  exact foldl_nodup _ _ (oldM_nodup hx)

theorem merge_step {A B d n : Nat} {mg : V → V → V} {x p : V} (hA : A ≤ 400) (hB : B ≤ 400) (hmg : ∀ v k n, OKV A d v → OKV B d k → 2100 + d ≤ n → F15 n v k = some (mg v k) ∧ F16 n v k = some (mg v k)) (hx : OKV A (d + 1) x) (hp : OKV B (d + 1) p) (hk : p.kind = 6) (hn : 2100 + d ≤ n) :
    F15 (n + 1) x p = some (objM (mrgM mg x p)) ∧ F16 (n + 1) x p = some (objM (mrgM mg x p)) := by
  obtain ⟨p1, p2⟩ := hp.2.2.1 hk
  have hp4 := hp.2.1
  have hx1 := hx.1
  have hx2 := hx.2.1
  have hloop := merge_loop (self := F15 n) (mg := mg) (n := n) p1 p2 (by omega) (by omega) (fun q hq => (hmg _ _ n (none0_okv (prs_okv hp hq)) (prs_okv hp hq) (by omega)).1) p.kids.length 0 n (oldM x) (by omega) (by omega) (oldM_nodup hx) (by have := oldM_length hx; omega)
    (fun e he q hq _ => (hmg _ _ n (oldM_okv hx he) (prs_okv hp (List.mem_of_mem_drop hq)) (by omega)).1)
  have hloop2 := merge_loop16 (self := F16 n) (mg := mg) (n := n) p1 p2 (by omega) (by omega) (fun q hq => (hmg _ _ n (none0_okv (prs_okv hp hq)) (prs_okv hp hq) (by omega)).2) p.kids.length 0 n (oldM x) (by omega) (by omega) (oldM_nodup hx) (by have := oldM_length hx; omega)
    (fun e he q hq _ => (hmg _ _ n (oldM_okv hx he) (prs_okv hp (List.mem_of_mem_drop hq)) (by omega)).2)
  rw [List.drop_zero, foldl_stepM _ _ (by rw [nms_prs p1]; exact p2) (oldM_nodup hx)] at hloop hloop2
  simp only [F15, F15B, F16, F16B]
  rw [show (p.kind != 6) = false by simp [hk]]
  simp only [cond_false, F15j0, F16j0]
  by_cases hxk : x.kind = 6
  · rw [show (x.kind == 6) = true by simp [hxk]]
    have b1 : x.names.length * 16 ≤ maxRoom := by simp only [maxRoom]; omega
    have b2 : x.names.length ≤ maxRoom := by simp only [maxRoom]; omega
    have b3 : x.kids.length * 88 ≤ maxRoom := by simp only [maxRoom]; omega
    have b4 : x.kids.length ≤ maxRoom := by simp only [maxRoom]; omega
    simp only [cond_true, decide_eq_true b1, decide_eq_true b2, decide_eq_true b3, decide_eq_true b4, Bool.and_true]
    have e1 : nms (oldM x) = x.names := by unfold oldM; rw [if_pos hxk]; exact nms_prs (hx.2.2.1 hxk).1
    have e2 : kds (oldM x) = x.kids := by unfold oldM; rw [if_pos hxk]; exact kds_prs (hx.2.2.1 hxk).1
    rw [e1, e2] at hloop hloop2
    rw [mrgM, e1]
    exact ⟨hloop, hloop2⟩
  · rw [show (x.kind == 6) = false by simp [hxk]]
    simp only [cond_false]
    have e0 : oldM x = [] := by unfold oldM; rw [if_neg hxk]
    rw [mrgM]
    rw [e0] at hloop hloop2 ⊢
    exact ⟨hloop, hloop2⟩

theorem merge_both {A B : Nat} (hA : A ≤ 400) (hB : B ≤ 400) : ∀ (d : Nat) (x p : V) (n : Nat), OKV A d x → OKV B d p → 2100 + d ≤ n → F15 n x p = some (mrg d x p) ∧ F16 n x p = some (mrg d x p)
  | 0, _, _, _, h, _, _ => h.elim
  | d + 1, x, p, n, hx, hp, hn => by
    obtain ⟨n, rfl⟩ : ∃ q, n = q + 1 := ⟨n - 1, by omega⟩
    by_cases hk : p.kind = 6
    · simp only [mrg, if_pos hk]
      exact merge_step hA hB (merge_both hA hB d) hx hp hk (by omega)
    · simp only [mrg, if_neg hk, F15, F15B, F16, F16B]
      rw [show (p.kind != 6) = true by simp [hk]]
      simp only [cond_true, V.eta]
      exact ⟨trivial, trivial⟩

theorem filterMap_length {α β : Type} (f : α → Option β) : ∀ l : List α, (l.filterMap f).length ≤ l.length
  | [] => Nat.le_refl _
  | a :: l => by
    rw [List.filterMap_cons]
    have := filterMap_length f l
    split <;> simp only [List.length_cons] <;> omega

/-- What is among the members: what was, or what came of two, or of nothing and one. -/
theorem mrgM_mem {mg : V → V → V} {x p : V} {e : Mem2} (h : e ∈ mrgM mg x p) :
    (e ∈ oldM x ∧ look (prs p) e.1 = none) ∨ (∃ o k, (e.1, o) ∈ oldM x ∧ look (prs p) e.1 = some k ∧ k.kind ≠ 1 ∧ e.2 = mg o k) ∨ (∃ k, (e.1, k) ∈ prs p ∧ k.kind ≠ 1 ∧ e.1 ∉ nms (oldM x) ∧ e.2 = mg none0 k) := by
  rcases List.mem_append.1 h with he | he
  · obtain ⟨a, ha, hae⟩ := List.mem_filterMap.1 he
    unfold wasM at hae
    split at hae
    · rename_i hl
      cases hae
      exact .inl ⟨ha, hl⟩
    · rename_i k hlk
      split at hae
      · cases hae
      · rename_i hk
        cases hae
        exact .inr (.inl ⟨a.2, k, ha, hlk, hk, rfl⟩)
  · obtain ⟨a, ha, hae⟩ := List.mem_filterMap.1 he
    unfold newM at hae
    split at hae
    · rename_i hc
      cases hae
      exact .inr (.inr ⟨a.2, ha, hc.1, hc.2, rfl⟩)
    · cases hae

theorem OKV.mono {A B : Nat} (h : A ≤ B) : ∀ {d : Nat} {v : V}, OKV A d v → OKV B d v
  | 0, _, h => h.elim
  | _ + 1, _, ⟨h1, h2, h3, h4⟩ => ⟨by omega, by omega, h3, fun k hk => (h4 k hk).mono h⟩

theorem mrgM_length {A B d : Nat} {mg : V → V → V} {x p : V} (hx : OKV A (d + 1) x) (hp : OKV B (d + 1) p) : (mrgM mg x p).length ≤ A + B := by
  have h1 := oldM_length hx
  have h2 : (prs p).length ≤ B := by have h1 := hp.1; simp [prs]; omega
  have h3 := filterMap_length (wasM mg (prs p)) (oldM x)
  have h4 := filterMap_length (newM mg (nms (oldM x))) (prs p)
  simp only [mrgM, List.length_append]
  omega

theorem mrg_okv {A B : Nat} : ∀ (d : Nat) (x p : V), OKV A d x → OKV B d p → OKV (A + B) d (mrg d x p)
  | 0, _, _, h, _ => h.elim
  | d + 1, x, p, hx, hp => by
    by_cases hk : p.kind = 6
    · simp only [mrg, if_pos hk]
      have hl := mrgM_length (mg := mrg d) hx hp
      refine ⟨by simp only [objM]; rw [nms_length]; exact hl, by simp only [objM]; rw [kds_length]; exact hl, fun _ => ⟨by simp only [objM]; rw [nms_length, kds_length], mrgM_nodup hx hp hk⟩, fun k hk => ?_⟩
      simp only [objM, kds] at hk
      obtain ⟨e, he, rfl⟩ := List.mem_map.1 hk
      rcases mrgM_mem he with ⟨h1, _⟩ | ⟨o, k, h1, h2, _, h3⟩ | ⟨k, h1, _, _, h3⟩
      · exact (oldM_okv hx h1).mono (by omega)
      · rw [h3]; exact mrg_okv d _ _ (oldM_okv hx h1) (prs_okv hp (look_mem h2))
      · rw [h3]; exact mrg_okv d _ _ (none0_okv (prs_okv hp h1)) (prs_okv hp h1)
    · simp only [mrg, if_neg hk]
      exact hp.mono (by omega)

/-- Texts no longer than t. -/
def TxtV (t : Nat) : Nat → V → Prop
  | 0, _ => False
  | d + 1, v => v.s.length ≤ t ∧ (∀ s ∈ v.names, s.length ≤ t) ∧ ∀ k ∈ v.kids, TxtV t d k

theorem fits_of {B : Nat} : ∀ {d : Nat} {v : V}, OKV B d v → TxtV B d v → FitsV B d v
  | 0, _, h, _ => h.elim
  | _ + 1, _, ⟨h1, h2, _, h4⟩, ⟨t1, t2, t3⟩ => ⟨t1, t2, h1, h2, fun k hk => fits_of (h4 k hk) (t3 k hk)⟩

theorem TxtV.mono {s t : Nat} (h : s ≤ t) : ∀ {d : Nat} {v : V}, TxtV s d v → TxtV t d v
  | 0, _, h => h.elim
  | _ + 1, _, ⟨h1, h2, h3⟩ => ⟨by omega, fun s hs => Nat.le_trans (h2 s hs) h, fun k hk => (h3 k hk).mono h⟩

theorem mrg_txt {t : Nat} : ∀ (d : Nat) (x p : V), TxtV t d x → TxtV t d p → TxtV t d (mrg d x p)
  | 0, _, _, h, _ => h.elim
  | d + 1, x, p, hx, hp => by
    by_cases hk : p.kind = 6
    · simp only [mrg, if_pos hk]
      have hx' : ∀ e ∈ oldM x, e.1.length ≤ t ∧ TxtV t d e.2 := by
        intro e he
        unfold oldM at he
        split at he
        · exact ⟨hx.2.1 _ (List.of_mem_zip he).1, hx.2.2 _ (List.of_mem_zip he).2⟩
        · cases he
      have hp' : ∀ e ∈ prs p, e.1.length ≤ t ∧ TxtV t d e.2 := fun e he => ⟨hp.2.1 _ (List.of_mem_zip he).1, hp.2.2 _ (List.of_mem_zip he).2⟩
      have hn : ∀ k, TxtV t d k → TxtV t d none0 := by
        intro k h
        cases d with
        | zero => exact h.elim
        | succ d => exact ⟨by simp [none0], by simp [none0], by simp [none0]⟩
      have key : ∀ e ∈ mrgM (mrg d) x p, e.1.length ≤ t ∧ TxtV t d e.2 := by
        intro e he
        rcases mrgM_mem he with ⟨h1, _⟩ | ⟨o, k, h1, h2, _, h3⟩ | ⟨k, h1, _, _, h3⟩
        · exact hx' e h1
        · rw [h3]; exact ⟨(hx' _ h1).1, mrg_txt d _ _ (hx' _ h1).2 (hp' _ (look_mem h2)).2⟩
        · rw [h3]; exact ⟨(hp' _ h1).1, mrg_txt d _ _ (hn _ (hp' _ h1).2) (hp' _ h1).2⟩
      refine ⟨by simp [objM], fun s hs => ?_, fun k hk => ?_⟩
      · simp only [objM, nms] at hs
        obtain ⟨e, he, rfl⟩ := List.mem_map.1 hs
        exact (key e he).1
      · simp only [objM, kds] at hk
        obtain ⟨e, he, rfl⟩ := List.mem_map.1 hk
        exact (key e he).2
    · simp only [mrg, if_neg hk]
      exact hp

theorem prs_objM (l : List Mem2) : prs (objM l) = l := by
  simp only [prs, objM, nms, kds]
  induction l with
  | nil => rfl
  | cons a l ih => simp only [List.map_cons, List.zip_cons_cons, ih]

theorem fm_id {α : Type} {f : α → Option α} : ∀ {l : List α}, (∀ a ∈ l, f a = some a) → l.filterMap f = l
  | [], _ => rfl
  | a :: l, h => by rw [List.filterMap_cons, h a (by simp), fm_id (l := l) fun b hb => h b (by simp [hb])]

theorem fm_nil {α β : Type} {f : α → Option β} : ∀ {l : List α}, (∀ a ∈ l, f a = none) → l.filterMap f = []
  | [], _ => rfl
  | a :: l, h => by rw [List.filterMap_cons, h a (by simp), fm_nil (l := l) fun b hb => h b (by simp [hb])]

/-- Done twice it is as done once. -/
theorem mrg_twice {A B : Nat} : ∀ (d : Nat) (x p : V), OKV A d x → OKV B d p → mrg d (mrg d x p) p = mrg d x p
  | 0, _, _, h, _ => h.elim
  | d + 1, x, p, hx, hp => by
    by_cases hk : p.kind = 6
    · obtain ⟨p1, p2⟩ := hp.2.2.1 hk
      have hpn : (nms (prs p)).Nodup := by rw [nms_prs p1]; exact p2
      simp only [mrg, if_pos hk]
      congr 1
      have e0 : oldM (objM (mrgM (mrg d) x p)) = mrgM (mrg d) x p := by
        unfold oldM
        rw [if_pos (show (objM (mrgM (mrg d) x p)).kind = 6 from rfl), prs_objM]
      rw [show mrgM (mrg d) (objM (mrgM (mrg d) x p)) p = (oldM (objM (mrgM (mrg d) x p))).filterMap (wasM (mrg d) (prs p)) ++ (prs p).filterMap (newM (mrg d) (nms (oldM (objM (mrgM (mrg d) x p))))) from rfl, e0]
      rw [fm_id (l := mrgM (mrg d) x p) (f := wasM (mrg d) (prs p)), fm_nil, List.append_nil]
      · intro q hq
        unfold newM
        refine if_neg fun h => h.2 ?_
        by_cases hm : q.1 ∈ nms (oldM x)
        · obtain ⟨a, ha, hae⟩ := List.mem_map.1 hm
          refine List.mem_map.2 ⟨(a.1, mrg d a.2 q.2), List.mem_append_left _ (List.mem_filterMap.2 ⟨a, ha, ?_⟩), hae⟩
          unfold wasM
          rw [hae, look_in hpn hq]
          simp only
          rw [if_neg h.1]
        · exact List.mem_map.2 ⟨(q.1, mrg d none0 q.2), List.mem_append_right _ (List.mem_filterMap.2 ⟨q, hq, by unfold newM; rw [if_pos ⟨h.1, hm⟩]⟩), rfl⟩
      · intro e he
        rcases mrgM_mem he with ⟨h1, h2⟩ | ⟨o, k, h1, h2, h4, h3⟩ | ⟨k, h1, h4, h5, h3⟩
        · unfold wasM
          rw [h2]
        · unfold wasM
          rw [h2]
          simp only
          rw [if_neg h4, h3, mrg_twice d o k (oldM_okv hx h1) (prs_okv hp (look_mem h2)), ← h3]
        · unfold wasM
          rw [look_in hpn h1]
          simp only
          rw [if_neg h4, h3, mrg_twice d none0 k (none0_okv (A := A) (prs_okv hp h1)) (prs_okv hp h1), ← h3]
    · simp only [mrg, if_neg hk]

end Go.Proofs.Ytdkelhdlfeendaa.Ab.Pm

/- The values that the laws draw by numbers: right, small, their texts short. -/
namespace Go.Proofs.Ytdkelhdlfeendaa.Ab.Pm
open Go Go.RowKit Go.Proofs
set_option linter.unusedSimpArgs false
set_option linter.unusedVariables false

/-- A value as the laws draw them: an object's names are no two alike, as many as its kids. -/
def Good : Nat → V → Prop
  | 0, _ => False
  | d + 1, v => v.names.length ≤ 4 ∧ v.kids.length ≤ 4 ∧ (v.kind = 6 → v.names.length = v.kids.length ∧ v.names.Nodup ∧ v.b = false ∧ v.n = 0 ∧ v.s = []) ∧ (v.kind ≠ 6 → v.names = []) ∧ (v.s.length ≤ 3 ∧ ∀ x ∈ v.names, x.length ≤ 3) ∧ ∀ k ∈ v.kids, Good d k

theorem Good.okv : ∀ {d : Nat} {v : V}, Good d v → OKV 4 d v
  | 0, _, h => h.elim
  | _ + 1, _, ⟨h1, h2, h3, _, _, h4⟩ => ⟨h1, h2, fun h => ⟨(h3 h).1, (h3 h).2.1⟩, fun k hk => (h4 k hk).okv⟩

theorem Good.txt : ∀ {d : Nat} {v : V}, Good d v → TxtV 3 d v
  | 0, _, h => h.elim
  | _ + 1, _, ⟨_, _, _, _, ⟨t1, t2⟩, h4⟩ => ⟨t1, t2, fun k hk => (h4 k hk).txt⟩

theorem dv {k c : Int} (hk : 0 ≤ k) (hk2 : k < 1099511627776) (hc : 0 < c) : IntKind.wrap .i64 (Int.tdiv k c) = k / c := by
  rw [Int.tdiv_eq_ediv_of_nonneg hk]
  have h1 : 0 ≤ k / c := Int.ediv_nonneg hk (by omega)
  have h2 : k / c ≤ k := Int.ediv_le_self c hk
  exact wrap64 (by omega) (by omega)

theorem md {k c : Int} (hk : 0 ≤ k) : Int.tmod k c = k % c := Int.tmod_eq_emod_of_nonneg hk

theorem place {n : Nat} {v c : Int} (hc : 0 < c) (hc2 : c ≤ 1099511627776) : ∃ k, F23 n v c = some k ∧ 0 ≤ k ∧ k < c := by
  unfold F23
  have e : (c == 0) = false := by rw [beq_eq_false_iff_ne]; omega
  simp only [e, Bool.not_false, cond_true]
  have h1 : Int.tmod v c < c := Int.tmod_lt_of_pos v hc
  have h2 : -c < Int.tmod v c := by
    have := Int.tmod_lt_of_pos (-v) hc
    rw [Int.neg_tmod] at this
    omega
  by_cases h : Int.tmod v c < 0
  · rw [decide_eq_true h]
    exact ⟨_, rfl, by rw [wrap64 (by omega) (by omega)]; omega, by rw [wrap64 (by omega) (by omega)]; omega⟩
  · rw [decide_eq_false h]
    exact ⟨_, rfl, by omega, h1⟩

def nmL (last : List UInt8) : List (List UInt8) := [[97], [98], [99], [100], last]
def isLast (l : List UInt8) : Prop := l = [195, 169] ∨ l = [101, 204, 129]
theorem nm_inj {last : List UInt8} (h : isLast last) : ∀ x, x < 5 → ∀ y, y < 5 → (nmL last).getD x [] = (nmL last).getD y [] → x = y := by
  rcases h with rfl | rfl <;> decide

def nmAt (q : Int) (last : List UInt8) (i : Nat) : List (List UInt8) := (List.range i).map fun (j : Nat) => (nmL last).getD ((q + (j : Int)) % 5).toNat []

theorem nmL_short {last : List UInt8} (h : isLast last) (i : Nat) : ((nmL last).getD i []).length ≤ 3 := by
  have : ∀ l : List (List UInt8), (∀ x ∈ l, x.length ≤ 3) → (l.getD i []).length ≤ 3 := by
    intro l hl
    rw [List.getD_eq_getElem?_getD]
    cases he : l[i]? with
    | none => simp
    | some x => exact hl x (List.mem_of_getElem? he)
  refine this _ ?_
  rcases h with rfl | rfl <;> decide

theorem nmAt_nodup {q : Int} {last : List UInt8} (h : isLast last) {i : Nat} (hi : i ≤ 4) : (nmAt q last i).Nodup := by
  unfold nmAt
  refine List.pairwise_map.2 ?_
  refine List.Pairwise.imp_of_mem ?_ List.nodup_range
  intro a b ha hb hne he
  rw [List.mem_range] at ha hb
  have := nm_inj h _ (by omega) _ (by omega) he
  omega

def cost : Nat → Int
  | 0 => 1
  | d + 1 => 1 + 4 * cost d

theorem cost_pos : ∀ d, 1 ≤ cost d
  | 0 => by simp [cost]
  | d + 1 => by have := cost_pos d; simp only [cost]; omega

theorem small_loop {self : List Int → Int → Int → Option (V × Int)} {n d : Nat} {l : List Int} {t2 k : Int} {last : List UInt8} {kind : Int} {B c : Int} (hcp : 1 ≤ c) (hk0 : 0 ≤ k) (hk1 : k < 1099511627776) (ht : 1 ≤ t2) (ht2 : t2 ≤ 100)
    (hlast : isLast last) (hkind : kind = 6 ∨ kind = 5) (hs : ∀ a, 0 ≤ a → a ≤ B → ∃ v a', self l a (t2 - 1) = some (v, a') ∧ Good d v ∧ a ≤ a' ∧ a' ≤ a + c) {x0 x2 : Int} {x1 : Bool} {x3 : List UInt8} {x4 : List (List UInt8)} {x5 : List V} {cnt : Nat} (hcnt : (cnt : Int) = k / 6 % 5) :
    ∀ (j i m : Nat) (at_ : Int) (ks : List V), i + j = cnt → j < m → 0 ≤ at_ → at_ + (j : Int) * c ≤ B → ks.length = i → (∀ v ∈ ks, Good d v) →
      ∃ v a', F32l2 self n m l at_ t2 k last (i : Int) x0 x1 x2 x3 x4 x5 kind false 0 [] (if kind = 6 then nmAt (k / 30) last i else []) ks = some (v, a') ∧ Good (d + 1) v ∧ at_ ≤ a' ∧ a' ≤ at_ + (j : Int) * c := by
  have hk6 : 0 ≤ k / 6 := Int.ediv_nonneg hk0 (by omega)
  have hk30 : 0 ≤ k / 30 := Int.ediv_nonneg hk0 (by omega)
  have hk30' : k / 30 ≤ k := Int.ediv_le_self _ hk0
  intro j
  induction j with
  | zero =>
    intro i m at_ ks q1 q2 q3 q4 q5 q6
    obtain ⟨m, rfl⟩ : ∃ q, m = q + 1 := ⟨m - 1, by omega⟩
    simp only [F32l2, F32l2F]
    rw [dv hk0 hk1 (by omega), md hk6, decide_eq_false (by omega)]
    refine ⟨_, _, rfl, ?_, by omega, by omega⟩
    refine ⟨?_, ?_, ?_, ?_, ⟨by simp, ?_⟩, q6⟩
    · simp only; split <;> simp [nmAt]; omega
    · simp only; omega
    · intro h6
      simp only at h6
      subst h6
      simp only [if_true]
      exact ⟨by simp [nmAt, q5], nmAt_nodup hlast (by omega), trivial, trivial, trivial⟩
    · intro h6
      simp only at h6 ⊢
      rw [if_neg h6]
    · intro y hy
      simp only at hy
      split at hy
      · obtain ⟨a, ha, rfl⟩ := List.mem_map.1 hy
        exact nmL_short hlast _
      · cases hy
  | succ j ih =>
    intro i m at_ ks q1 q2 q3 q4 q5 q6
    obtain ⟨m, rfl⟩ : ∃ q, m = q + 1 := ⟨m - 1, by omega⟩
    have hmul : ((j + 1 : Nat) : Int) * c = (j : Int) * c + c := by rw [Int.natCast_add, Int.add_mul]; simp
    have hjc : 0 ≤ (j : Int) * c := Int.mul_nonneg (by omega) (by omega)
    rw [hmul] at q4 ⊢
    obtain ⟨v, a1, e1, e2, e3, e4⟩ := hs at_ q3 (by omega)
    simp only [F32l2, F32l2F]
    rw [dv hk0 hk1 (by omega), md hk6, decide_eq_true (by omega), wrap64 (x := t2 - 1) (by omega) (by omega), e1]
    have hb1 : (ks.length + 1) * 88 ≤ maxRoom := by simp only [maxRoom]; omega
    have hb2 : ks.length + 1 ≤ maxRoom := by simp only [maxRoom]; omega
    have hi1 : IntKind.wrap .i64 ((i : Int) + 1) = ((i + 1 : Nat) : Int) := by rw [wrap64 (by omega) (by omega)]; omega
    have hcl : ∀ u ∈ ks ++ [v], Good d u := by
      intro u hu
      rcases List.mem_append.1 hu with hu | hu
      · exact q6 u hu
      · rw [List.mem_singleton] at hu; exact hu ▸ e2
    rcases hkind with rfl | rfl
    · have hq : IntKind.wrap .i64 (k / 30 + (i : Int)) = k / 30 + (i : Int) := wrap64 (by omega) (by omega)
      simp only [dv hk0 hk1 (show (0 : Int) < 30 by omega), hq, md (show 0 ≤ k / 30 + (i : Int) by omega), V.eta]
      have hin : inB ((k / 30 + (i : Int)) % 5) 5 = true := by simp [inB]; omega
      have hb3 : ((nmAt (k / 30) last i).length + 1) * 16 ≤ maxRoom := by simp only [maxRoom, nmAt, List.length_map, List.length_range]; omega
      have hb4 : (nmAt (k / 30) last i).length + 1 ≤ maxRoom := by simp only [maxRoom, nmAt, List.length_map, List.length_range]; omega
      have hcl2 : nmAt (k / 30) last i ++ [(nmL last).getD (Int.toNat ((k / 30 + (i : Int)) % 5)) (Ty.dflt .str)] = nmAt (k / 30) last (i + 1) := by
        simp [nmAt, List.range_succ, Ty.dflt]
      obtain ⟨u, a2, f1, f2, f3, f4⟩ := ih (i + 1) m a1 (ks ++ [v]) (by omega) (by omega) (by omega) (by omega) (by simp [q5]) hcl
      refine ⟨u, a2, ?_, f2, by omega, by omega⟩
      rw [← f1]
      simp only [if_true]
      rw [← hcl2, hin, hi1]
      simp only [List.length_cons, List.length_nil, Nat.zero_add, decide_eq_true hb1, decide_eq_true hb2, decide_eq_true hb3, decide_eq_true hb4, Bool.and_true, cond_true, Bool.not_false, beq_self_eq_true, nmL, show ((6 : Int) == 0) = false from rfl, show ((5 : Int) == 0) = false from rfl, show ((30 : Int) == 0) = false from rfl]
      rfl
    · obtain ⟨u, a2, f1, f2, f3, f4⟩ := ih (i + 1) m a1 (ks ++ [v]) (by omega) (by omega) (by omega) (by omega) (by simp [q5]) hcl
      refine ⟨u, a2, ?_, f2, by omega, by omega⟩
      rw [← f1]
      simp only [show ((5 : Int) = 6) = False from by simp, if_false]
      rw [hi1]
      simp only [List.length_cons, List.length_nil, Nat.zero_add, decide_eq_true hb1, decide_eq_true hb2, Bool.and_true, cond_true, cond_false, Bool.not_false, show ((5 : Int) == 6) = false from rfl, show ((6 : Int) == 0) = false from rfl, show ((5 : Int) == 0) = false from rfl, V.eta]
      rfl

theorem lit_short (i : Nat) : (([[], [97], [195, 169]] : List (List UInt8)).getD i []).length ≤ 3 := by
  rcases i with _ | _ | _ | i <;> simp

theorem leaf_good (d : Nat) {k : Int} {b : Bool} {x : Int} {t : List UInt8} (hk : k ≠ 6) (ht : t.length ≤ 3) : Good (d + 1) ⟨k, b, x, t, [], []⟩ := ⟨by simp, by simp, fun h => absurd h hk, fun _ => rfl, ⟨ht, by simp⟩, by simp⟩

theorem F32j0_good {self : List Int → Int → Int → Option (V × Int)} {n d : Nat} {l : List Int} {t1 t2 k : Int} {B : Int} (hn : 20 ≤ n) (hk0 : 0 ≤ k) (hk1 : k < 1099511627776) (ht : t2 = (d : Int)) (ht2 : d ≤ 99)
    (h1 : 0 ≤ t1) (hB : t1 + cost d ≤ B) (hB2 : B ≤ 1000000000) (hs : ∀ e, d = e + 1 → ∀ a, 0 ≤ a → a ≤ B → ∃ v a', self l a (t2 - 1) = some (v, a') ∧ Good (e + 1) v ∧ a ≤ a' ∧ a' ≤ a + cost e) {x0 x2 : Int} {x1 : Bool} {x3 : List UInt8} {x4 : List (List UInt8)} {x5 : List V} :
    ∃ v a', F32j0 self n l t1 t2 k x0 x1 x2 x3 x4 x5 = some (v, a') ∧ Good (d + 1) v ∧ t1 ≤ a' ∧ a' ≤ t1 + cost d := by
  have hcp := cost_pos d
  have hk6 : 0 ≤ k / 6 := Int.ediv_nonneg hk0 (by omega)
  have hk24 : 0 ≤ k / 24 := Int.ediv_nonneg hk0 (by omega)
  have hk150 : 0 ≤ k / 150 := Int.ediv_nonneg hk0 (by omega)
  have hat : IntKind.wrap .i64 (t1 + 1) = t1 + 1 := wrap64 (by omega) (by omega)
  have leaf : ∃ v a', (bif (k / 6 % 4 == 0) then some ((⟨1, false, 0, [], [], []⟩ : V), t1 + 1) else bif (k / 6 % 4 == 1) then some ((⟨3, false, k / 24 % 3, [], [], []⟩ : V), t1 + 1) else
      bif (k / 6 % 4 == 2) then some ((⟨2, (k / 24 % 2 == 0), 0, [], [], []⟩ : V), t1 + 1) else some ((⟨4, false, 0, ([[], [97], [195, 169]] : List (List UInt8)).getD (Int.toNat (k / 24 % 3)) [], [], []⟩ : V), t1 + 1)) = some (v, a') ∧ Good (d + 1) v ∧ t1 ≤ a' ∧ a' ≤ t1 + cost d := by
    cases (k / 6 % 4 == 0)
    · cases (k / 6 % 4 == 1)
      · cases (k / 6 % 4 == 2)
        · exact ⟨_, _, rfl, leaf_good d (by decide) (by first | decide | exact lit_short _), by omega, by omega⟩
        · exact ⟨_, _, rfl, leaf_good d (by decide) (by first | decide | exact lit_short _), by omega, by omega⟩
      · exact ⟨_, _, rfl, leaf_good d (by decide) (by first | decide | exact lit_short _), by omega, by omega⟩
    · exact ⟨_, _, rfl, leaf_good d (by decide) (by first | decide | exact lit_short _), by omega, by omega⟩
  have hin : inB (k / 24 % 3) 3 = true := by simp [inB]; omega
  have c6 : ((6 : Int) == 0) = false := rfl
  have c4 : ((4 : Int) == 0) = false := rfl
  have c24 : ((24 : Int) == 0) = false := rfl
  have c3 : ((3 : Int) == 0) = false := rfl
  have c2 : ((2 : Int) == 0) = false := rfl
  have c150 : ((150 : Int) == 0) = false := rfl
  unfold F32j0
  simp only [dv hk0 hk1 (show (0 : Int) < 6 by omega), dv hk0 hk1 (show (0 : Int) < 24 by omega), md hk6, md hk24, md hk0, hat, hin, c6, c4, c24, c3, c2, Bool.not_false, cond_true, Bool.and_true]
  by_cases hd : t2 = 0
  · rw [show (t2 == 0) = true by rw [hd]; rfl]
    simp only [cond_true]
    exact leaf
  rw [show (t2 == 0) = false by rw [beq_eq_false_iff_ne]; exact hd]
  simp only [cond_false]
  by_cases hlt : k % 6 < 2
  · rw [decide_eq_true hlt]
    simp only [cond_true]
    exact leaf
  rw [decide_eq_false hlt]
  simp only [cond_false]
  by_cases hgt : t1 + 1 > (l.length : Int)
  · rw [decide_eq_true hgt]
    simp only [cond_true]
    exact leaf
  rw [decide_eq_false hgt]
  simp only [cond_false]
  obtain ⟨e, rfl⟩ : ∃ e, d = e + 1 := ⟨d - 1, by omega⟩
  have hin2 : inB (k / 150 % 2) 2 = true := by simp [inB]; omega
  have hlast : isLast ((([([195, 169] : List UInt8), ([101, 204, 129] : List UInt8)] : List (List UInt8))).getD (Int.toNat (k / 150 % 2)) (Ty.dflt .str)) := by
    have : k / 150 % 2 = 0 ∨ k / 150 % 2 = 1 := by omega
    rcases this with h | h <;> rw [h]
    · exact .inl rfl
    · exact .inr rfl
  obtain ⟨cnt, hcnt⟩ : ∃ cnt : Nat, (cnt : Int) = k / 6 % 5 := ⟨(k / 6 % 5).toNat, by omega⟩
  have hcost : (cnt : Int) * cost e ≤ 4 * cost e := Int.mul_le_mul_of_nonneg_right (by omega) (by have := cost_pos e; omega)
  have hce : cost (e + 1) = 1 + 4 * cost e := rfl
  have ht1 : 1 ≤ t2 := by omega
  have ht100 : t2 ≤ 100 := by omega
  have node : ∀ kind : Int, kind = 6 ∨ kind = 5 → ∃ v a', F32j1 self n l (t1 + 1) t2 k x0 x1 x2 x3 x4 x5 kind false 0 [] [] [] = some (v, a') ∧ Good (e + 1 + 1) v ∧ t1 ≤ a' ∧ a' ≤ t1 + cost (e + 1) := by
    intro kind hkind
    unfold F32j1
    simp only [dv hk0 hk1 (show (0 : Int) < 150 by omega), md hk150, hin2, c150, c2, Bool.not_false, cond_true, Bool.and_true]
    obtain ⟨v, a', f1, f2, f3, f4⟩ := small_loop (d := e + 1) (B := B) (cost_pos e) (x0 := x0) (x1 := x1) (x2 := x2) (x3 := x3) (x4 := x4) (x5 := x5) hk0 hk1 ht1 ht100 hlast hkind (hs e rfl) hcnt cnt 0 n (t1 + 1) [] (by omega) (by omega) (by omega) (by omega) rfl (by simp)
    refine ⟨v, a', ?_, f2, by omega, by omega⟩
    rw [← f1]
    congr 1
    split <;> rfl
  cases (k % 6 == 5)
  · exact node 6 (.inl rfl)
  · exact node 5 (.inr rfl)

theorem small_good : ∀ (d : Nat) (l : List Int) (a : Int) (n : Nat), 0 ≤ a → a + 2 * cost d ≤ 100000000 → d ≤ 99 → d + 21 ≤ n → ∃ v a', F32 n l a (d : Int) = some (v, a') ∧ Good (d + 1) v ∧ a ≤ a' ∧ a' ≤ a + cost d := by
  intro d
  induction d with
  | zero =>
    intro l a n h1 h2 h3 h5
    obtain ⟨n, rfl⟩ : ∃ q, n = q + 1 := ⟨n - 1, by omega⟩
    simp only [F32, F32B]
    have key : ∀ k, 0 ≤ k → k < 1099511627776 → ∃ v a', F32j0 (F32 n) n l a ((0 : Nat) : Int) k 0 false 0 [] [] [] = some (v, a') ∧ Good (0 + 1) v ∧ a ≤ a' ∧ a' ≤ a + cost 0 := fun k hk0 hk1 =>
      F32j0_good (d := 0) (B := 100000000) (by omega) hk0 hk1 rfl (by omega) h1 (by simp only [cost] at h2 ⊢; omega) (by omega) (fun e he => by omega)
    by_cases hlt : a < (l.length : Int)
    · rw [decide_eq_true hlt, show inB a l.length = true by simp [inB]; omega]
      obtain ⟨k, hk, k0, k1⟩ := place (n := n) (v := l.getD (Int.toNat a) (Ty.dflt (.int .i64))) (c := 1099511627776) (by omega) (by omega)
      simp only [cond_true, hk]
      exact key k k0 k1
    · rw [decide_eq_false hlt]
      exact key 0 (by omega) (by omega)
  | succ d ih =>
    intro l a n h1 h2 h3 h5
    obtain ⟨n, rfl⟩ : ∃ q, n = q + 1 := ⟨n - 1, by omega⟩
    simp only [F32, F32B]
    have hc : cost (d + 1) = 1 + 4 * cost d := rfl
    have hcp := cost_pos d
    have key : ∀ k, 0 ≤ k → k < 1099511627776 → ∃ v a', F32j0 (F32 n) n l a ((d + 1 : Nat) : Int) k 0 false 0 [] [] [] = some (v, a') ∧ Good (d + 1 + 1) v ∧ a ≤ a' ∧ a' ≤ a + cost (d + 1) := fun k hk0 hk1 =>
      F32j0_good (d := d + 1) (B := a + cost (d + 1)) (by omega) hk0 hk1 rfl (by omega) h1 (by omega) (by omega) (fun e he b hb0 hb1 => by
        obtain rfl : d = e := by omega
        have := ih l b n hb0 (by omega) (by omega) (by omega)
        rw [show (((d + 1 : Nat) : Int) - 1) = (d : Int) by omega]
        exact this)
    by_cases hlt : a < (l.length : Int)
    · rw [decide_eq_true hlt, show inB a l.length = true by simp [inB]; omega]
      obtain ⟨k, hk, k0, k1⟩ := place (n := n) (v := l.getD (Int.toNat a) (Ty.dflt (.int .i64))) (c := 1099511627776) (by omega) (by omega)
      simp only [cond_true, hk]
      exact key k k0 k1
    · rw [decide_eq_false hlt]
      exact key 0 (by omega) (by omega)


theorem Small_ok (zs : List Int) {n : Nat} (hn : 30 ≤ n) : ∃ v, F17 n zs = some v ∧ Good 5 v := by
  obtain ⟨v, a, h1, h2, _⟩ := small_good 4 zs 0 n (by omega) (by simp [cost]) (by omega) (by omega)
  refine ⟨v, ?_, h2⟩
  have h1' : F32 n zs 0 4 = some (v, a) := h1
  unfold F17
  rw [h1']
  simp only [V.eta]

theorem awake_ok : A10 = some true := by kernel_rfl

theorem patchAgain_pure (l m : List Int) {n : Nat} (hn : 100000 < n) : F4 n l m = some true := by
  unfold F4
  by_cases h : (l.length : Int) > 60
  · rw [decide_eq_true h, awake_ok]
    rfl
  rw [decide_eq_false h]
  by_cases h' : (m.length : Int) > 60
  · rw [decide_eq_true h', awake_ok]
    rfl
  rw [decide_eq_false h']
  obtain ⟨x, x1, x2⟩ := Small_ok l (n := n) (by omega)
  obtain ⟨p, p1, p2⟩ := Small_ok m (n := n) (by omega)
  simp only [cond_false, x1, p1, V.eta]
  have m1 := (merge_both (by omega) (by omega) 5 x p n x2.okv p2.okv (by omega)).1
  have o1 := mrg_okv 5 x p x2.okv p2.okv
  have t1 := mrg_txt 5 x p x2.txt p2.txt
  have m2 := (merge_both (by omega) (by omega) 5 (mrg 5 x p) p n o1 p2.okv (by omega)).1
  rw [mrg_twice 5 x p x2.okv p2.okv] at m2
  obtain ⟨b, hb, _⟩ := check_ok full_tabs 8 (by omega) 5 (mrg 5 x p) (fits_of o1 (t1.mono (by omega)))
  simp only [m1, m2, F11_ok (show 90000 < n by omega)]
  rw [show F13 n (some tabs) (mrg 5 x p) = some b from hb n (by omega)]
  simp only
  cases b
  · rw [awake_ok]; rfl
  · simp only [Bool.not_true, cond_false, same_self (by omega) 5 (mrg 5 x p) n o1.sz (by omega), cond_true, awake_ok]

end Go.Proofs.Ytdkelhdlfeendaa.Ab.Pm
