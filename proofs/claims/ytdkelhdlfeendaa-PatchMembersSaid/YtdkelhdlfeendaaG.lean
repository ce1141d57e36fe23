/- Functions of the program as Lean functions. Printed by wip/gen/gen.py. -/
import Derived.Test.YtdkelhdlfeendaaC20
import Derived.Test.YtdkelhdlfeendaaChecked
import Derived.Shelf.Lays2
import Derived.Shelf.RegionOpenPlain
import Derived.Deep.RegionLaw
import Derived.Deep.MidRow
import Derived.Lib.Walk
import Derived.Lib.SliceRun
namespace Go.Proofs.Ytdkelhdlfeendaa.Ab
open Go Go.RowKit Go.Proofs Go.Lib Go.Shelf
set_option maxRecDepth 100000
set_option maxHeartbeats 4000000
set_option linter.unusedVariables false

noncomputable def layL : List (Nat × LInfo) := [
  (3, ⟨Try.t3.desc, (Try.t3.zero).getD .nilFunc, 1, 8, some (.int .i64)⟩),
  (4, ⟨Try.t4.desc, (Try.t4.zero).getD .nilFunc, 1, 1, some .bool⟩),
  (9, ⟨Try.t9.desc, (Try.t9.zero).getD .nilFunc, 1, 16, some .str⟩),
  (27, ⟨Try.t27.desc, (Try.t27.zero).getD .nilFunc, 1, 24, some (.slice .str)⟩),
  (28, ⟨Try.t28.desc, (Try.t28.zero).getD .nilFunc, 1, 24, some (.slice .value)⟩),
  (30, ⟨Try.t29.desc, (Try.t30.zero).getD .nilFunc, 6, 88, some .value⟩),
  (36, ⟨Try.t36.desc, (Try.t36.zero).getD .nilFunc, 1, 24, some (.slice (.int .i64))⟩),
  (75, ⟨Try.t75.desc, (Try.t75.zero).getD .nilFunc, 3, 48, some (.arr 3 .str)⟩),
  (76, ⟨Try.t76.desc, (Try.t76.zero).getD .nilFunc, 2, 32, some (.arr 2 .str)⟩),
  (77, ⟨Try.t77.desc, (Try.t77.zero).getD .nilFunc, 5, 80, some (.arr 5 .str)⟩)]

theorem layAll : LayAll Try.prog layL := by
  refine .cons (by kernel_rfl) (by kernel_rfl) (by kernel_rfl) ?_
  refine .cons (by kernel_rfl) (by kernel_rfl) (by kernel_rfl) ?_
  refine .cons (by kernel_rfl) (by kernel_rfl) (by kernel_rfl) ?_
  refine .cons (by kernel_rfl) (by kernel_rfl) (by kernel_rfl) ?_
  refine .cons (by kernel_rfl) (by kernel_rfl) (by kernel_rfl) ?_
  refine .cons (by kernel_rfl) (by kernel_rfl) (by kernel_rfl) ?_
  refine .cons (by kernel_rfl) (by kernel_rfl) (by kernel_rfl) ?_
  refine .cons (by kernel_rfl) (by kernel_rfl) (by kernel_rfl) ?_
  refine .cons (by kernel_rfl) (by kernel_rfl) (by kernel_rfl) ?_
  refine .cons (by kernel_rfl) (by kernel_rfl) (by kernel_rfl) ?_
  exact .nil

theorem mixed : Try.prog.follows .mixedOrders = true := by kernel_rfl

noncomputable def lay0 : Lay := layOf layL []
theorem lay0_ok : LayOK Try.prog lay0 := layOf_ok layAll (by simp)

noncomputable def cc27 : Code := Try.f27.body.getD .skip
theorem clone27 : CloneOK Try.prog 27 9 .str 16 := by
  refine clone_ok (Γ := noFns) lay0_ok mixed (by kernel_rfl : Try.prog.funcs[27]? = some Try.f27) (by kernel_rfl : Try.f27.body = some cc27) (by kernel_rfl) (by kernel_rfl : Try.f27.results = #[.tmp 2]) (by kernel_rfl) noFns_ok (by kernel_rfl) ?_ ?_
  · intro a cap
    kernel_rfl
  · intro x xs h1 h2
    have e : ev noFns lay0 Try.f27.ntmps cc27 .leaf (args0 0 [.val (.slice .str) (x :: xs)]) (ownK 2 9 .str) = bif (decide ((([] : List (List UInt8)).length + (x :: xs).length) * 16 ≤ maxRoom) && decide (([] : List (List UInt8)).length + (x :: xs).length ≤ maxRoom)) then some ([] ++ (x :: xs)) else none := by kernel_rfl
    rw [e, List.nil_append, List.length_nil, Nat.zero_add]
    rw [decide_eq_true h1, decide_eq_true h2]
    rfl

noncomputable def cc28 : Code := Try.f28.body.getD .skip
theorem clone28 : CloneOK Try.prog 28 30 .value 88 := by
  refine clone_ok (Γ := noFns) lay0_ok mixed (by kernel_rfl : Try.prog.funcs[28]? = some Try.f28) (by kernel_rfl : Try.f28.body = some cc28) (by kernel_rfl) (by kernel_rfl : Try.f28.results = #[.tmp 2]) (by kernel_rfl) noFns_ok (by kernel_rfl) ?_ ?_
  · intro a cap
    kernel_rfl
  · intro x xs h1 h2
    have e : ev noFns lay0 Try.f28.ntmps cc28 .leaf (args0 0 [.val (.slice .value) (x :: xs)]) (ownK 2 30 .value) = bif (decide ((([] : List V).length + (x :: xs).length) * 88 ≤ maxRoom) && decide (([] : List V).length + (x :: xs).length ≤ maxRoom)) then some ([] ++ (x :: xs)) else none := by kernel_rfl
    rw [e, List.nil_append, List.length_nil, Nat.zero_add]
    rw [decide_eq_true h1, decide_eq_true h2]
    rfl

def zero30 : Array Value := #[.string ⟨#[]⟩]

set_option maxHeartbeats 4000000 in
set_option maxRecDepth 1000000 in
theorem del30 : DelWalk Try.prog 30 1 zero30 := by
  refine ⟨fun A n cap i w hi hc hm => ?_, fun g n cap i j w news hij hj hcap hm hlen hsrc0 h1c hsp => ?_⟩
  · go_enter Try.func30, Try.ntmps30
    go_wp2
    all_goals (go_ret; exact ⟨rfl, rfl⟩)
  · have mixed : Try.prog.follows .mixedOrders = true := by kernel_rfl
    obtain ⟨i0, hi0, hz1⟩ : ∃ i0, Try.prog.info? 9 = some i0 ∧ i0.size = 1 := ⟨_, rfl, rfl⟩
    obtain ⟨A, hA, hsrc⟩ : ∃ A : Addr, (if cap = j then some (⟨g, 0, none⟩ : Addr) else some ⟨g, j, none⟩) = some A ∧ Hid (∀ t u, news[t]? = some u → w.drew.cell? (A.add t) = some u) := by
      by_cases h : cap = j
      · refine ⟨⟨g, 0, none⟩, by simp [h], fun t u hu => ?_⟩
        have h0 : news.length = 0 := by rw [hlen, show n - j = 0 by omega, Nat.zero_mul]
        rw [List.length_eq_zero_iff.1 h0] at hu
        simp at hu
      · refine ⟨⟨g, j, none⟩, by simp [h], fun t u hu => ?_⟩
        rw [Addr.add_lit]
        have := hsrc0 t u hu
        rw [Nat.mul_one] at this
        exact this
    have s1 : Hid (news.length = (n - j) * 1) := hlen
    have s2 : Hid (∀ u ∈ news, u.oneCell' = true) := h1c
    have s3 : Hid (∀ t, t < news.length → (w.drew.cell? ⟨g, 0 + i * 1 + t, none⟩).isSome = true ∧ w.drew.frozen? ⟨g, 0 + i * 1 + t, none⟩ = false) := by
      intro t ht
      exact hsp _ (by rw [hlen] at ht; omega)
    obtain ⟨W1, hW1⟩ : ∃ W1, W1 = w.drew.setCells g (0 + i * 1) news := ⟨_, rfl⟩
    have hsp1 : ∀ t, t < n * 1 → (W1.cell? ⟨g, t, none⟩).isSome = true ∧ W1.frozen? ⟨g, t, none⟩ = false := by
      intro t ht
      rw [hW1]
      refine ⟨World.isSome_setCells g news _ w.drew _ (hsp t ht).1, ?_⟩
      rw [World.frozen?_setCells]
      exact (hsp t ht).2
    have hcl : ∀ ty, (Builtin.clear_ #[27] ty #[.slice (some ⟨g, (i + (n - j)), none⟩) (n - (i + (n - j))) (cap - (i + (n - j)))]).run Try.prog W1 = .ok (.tuple #[]) (W1.setCells g ((i + (n - j))) (Builtin.zeroCells zero30 (n - (i + (n - j)))).toList) :=
      fun ty => run_clear_cells W1 27 9 ty (.string ⟨#[]⟩) Try.underlying27 (fun w => by kernel_rfl) (by simp [Value.cells, Value.oneCell', zero30]) (by simp [Value.cells, zero30]) g ((i + (n - j))) _ _ (by omega) (fun t ht => (hsp1 _ (by simp [Value.cells, zero30] at ht; omega)).1) (fun t ht => (hsp1 _ (by simp [Value.cells, zero30] at ht; omega)).2)
    have X : Aside (W1 = w.drew.setCells g (0 + i * 1) news) := hW1
    have hW : Hid (W1 = w.drew.setCells g (0 + i * 1) news) := hW1
    have hic : i ≤ cap := by omega
    have hjc : j ≤ cap := by omega
    have hne : i ≠ j := by omega
    clear hW1 hsp1 hsp hsrc0 hlen h1c
    go_enter Try.func30, Try.ntmps30
    go_wp2_with fail
    go_region_law_o (refine step_append_room rfl (.tmp 22) (.tmp 25) 27 rfl 9 i0 1 Try.underlying27 hi0 hz1 g 0 i cap (by simp [Act.eval, Act.put]) A (n - j) (cap - j) news (by simp [Act.eval, Act.put]) s1.out hsrc.out s2.out (by omega) s3.out ?_; rw [← hW.out])
    go_wp2
    go_ret
    refine ⟨rfl, ?_⟩
    rw [X.out]
    simp

def zero31 : Array Value := #[.int .i64 0, .bool false, .int .i64 0, .string ⟨#[]⟩, .slice none 0 0, .slice none 0 0]

set_option maxHeartbeats 4000000 in
set_option maxRecDepth 1000000 in
theorem del31 : DelWalk Try.prog 31 6 zero31 := by
  refine ⟨fun A n cap i w hi hc hm => ?_, fun g n cap i j w news hij hj hcap hm hlen hsrc0 h1c hsp => ?_⟩
  · go_enter Try.func31, Try.ntmps31
    go_wp2
    all_goals (go_ret; exact ⟨rfl, rfl⟩)
  · have mixed : Try.prog.follows .mixedOrders = true := by kernel_rfl
    obtain ⟨i0, hi0, hz1⟩ : ∃ i0, Try.prog.info? 30 = some i0 ∧ i0.size = 6 := ⟨_, rfl, rfl⟩
    obtain ⟨A, hA, hsrc⟩ : ∃ A : Addr, (if cap = j then some (⟨g, 0, none⟩ : Addr) else some ⟨g, j * 6, none⟩) = some A ∧ Hid (∀ t u, news[t]? = some u → w.drew.cell? (A.add t) = some u) := by
      by_cases h : cap = j
      · refine ⟨⟨g, 0, none⟩, by simp [h], fun t u hu => ?_⟩
        have h0 : news.length = 0 := by rw [hlen, show n - j = 0 by omega, Nat.zero_mul]
        rw [List.length_eq_zero_iff.1 h0] at hu
        simp at hu
      · refine ⟨⟨g, j * 6, none⟩, by simp [h], fun t u hu => ?_⟩
        rw [Addr.add_lit]
        have := hsrc0 t u hu
        exact this
    have s1 : Hid (news.length = (n - j) * 6) := hlen
    have s2 : Hid (∀ u ∈ news, u.oneCell' = true) := h1c
    have s3 : Hid (∀ t, t < news.length → (w.drew.cell? ⟨g, 0 + i * 6 + t, none⟩).isSome = true ∧ w.drew.frozen? ⟨g, 0 + i * 6 + t, none⟩ = false) := by
      intro t ht
      exact hsp _ (by rw [hlen] at ht; omega)
    obtain ⟨W1, hW1⟩ : ∃ W1, W1 = w.drew.setCells g (0 + i * 6) news := ⟨_, rfl⟩
    have hsp1 : ∀ t, t < n * 6 → (W1.cell? ⟨g, t, none⟩).isSome = true ∧ W1.frozen? ⟨g, t, none⟩ = false := by
      intro t ht
      rw [hW1]
      refine ⟨World.isSome_setCells g news _ w.drew _ (hsp t ht).1, ?_⟩
      rw [World.frozen?_setCells]
      exact (hsp t ht).2
    have hcl : ∀ ty, (Builtin.clear_ #[28] ty #[.slice (some ⟨g, (i + (n - j)) * 6, none⟩) (n - (i + (n - j))) (cap - (i + (n - j)))]).run Try.prog W1 = .ok (.tuple #[]) (W1.setCells g ((i + (n - j)) * 6) (Builtin.zeroCells zero31 (n - (i + (n - j)))).toList) :=
      fun ty => run_clear_cells W1 28 30 ty (.agg zero31) Try.underlying28 (fun w => by kernel_rfl) (by simp [Value.cells, Value.oneCell', zero31]) (by simp [Value.cells, zero31]) g ((i + (n - j)) * 6) _ _ (by omega) (fun t ht => (hsp1 _ (by simp [Value.cells, zero31] at ht; omega)).1) (fun t ht => (hsp1 _ (by simp [Value.cells, zero31] at ht; omega)).2)
    have X : Aside (W1 = w.drew.setCells g (0 + i * 6) news) := hW1
    have hW : Hid (W1 = w.drew.setCells g (0 + i * 6) news) := hW1
    have hic : i ≤ cap := by omega
    have hjc : j ≤ cap := by omega
    have hne : i ≠ j := by omega
    clear hW1 hsp1 hsp hsrc0 hlen h1c
    go_enter Try.func31, Try.ntmps31
    go_wp2_with fail
    go_region_law_o (refine step_append_room rfl (.tmp 22) (.tmp 25) 28 rfl 30 i0 6 Try.underlying28 hi0 hz1 g 0 i cap (by simp [Act.eval, Act.put]) A (n - j) (cap - j) news (by simp [Act.eval, Act.put]) s1.out hsrc.out s2.out (by omega) s3.out ?_; rw [← hW.out])
    go_wp2
    go_ret
    refine ⟨rfl, ?_⟩
    rw [X.out]
    simp

noncomputable def lay : Lay := layOf layL [(14, .borrow), (18, .borrow), (27, .clone 9 .str 16), (28, .clone 30 .value 88), (29, .borrow), (30, .delete 9 .str), (31, .delete 30 .value)]

theorem lay_ok : LayOK Try.prog lay := layOf_ok layAll (by
  intro p hp
  simp only [List.mem_cons, List.not_mem_nil, or_false] at hp
  rcases hp with rfl | rfl | rfl | rfl | rfl | rfl | rfl
  · exact trivial
  · exact trivial
  · exact clone27
  · exact clone28
  · exact trivial
  · exact delete_ok (enters (by kernel_rfl : Try.prog.funcs[30]? = some Try.f30) (by kernel_rfl : Try.f30.body = some (Try.f30.body.getD .skip)) (by kernel_rfl)) (by kernel_rfl) (by decide) del30
  · exact delete_ok (enters (by kernel_rfl : Try.prog.funcs[31]? = some Try.f31) (by kernel_rfl : Try.f31.body = some (Try.f31.body.getD .skip)) (by kernel_rfl)) (by kernel_rfl) (by decide) del31
  )

/-! ### orthoepy/orthoepylaw00.Place -/

def F23 (n : Nat) (a0 : Int) (a1 : Int) : Option (Int) :=
  (bif (!(a1 == 0)) then
  (bif (decide ((Int.tmod a0 a1) < 0)) then
    some (IntKind.wrap .i64 ((Int.tmod a0 a1) + a1))
  else
    some (Int.tmod a0 a1))
  else none)

noncomputable def c23 : Code := Try.f23.body.getD .skip

noncomputable def G23 (n : Nat) : Ctx (Res [.int .i64]) := noFns

noncomputable def P23 (n : Nat) : Pl (Res [.int .i64]) :=
  .leaf

theorem K23 (n : Nat) : PlOK (G23 n) lay 15 (P23 n) c23 (fnK lay [.tmp 4] [.int .i64]) :=
  trivial

theorem E23 (n : Nat) (a0 : Int) (a1 : Int) : F23 n a0 a1 = ev (G23 n) lay 15 c23 (P23 n) (args0 0 (argDs [.int .i64, .int .i64] (a0, a1))) (fnK lay [.tmp 4] [.int .i64]) := by kernel_rfl

theorem T23 (n : Nat) : Told Try.prog 23 [.int .i64, .int .i64] [.int .i64] (fun x => F23 n x.1 x.2) := by
  rintro ⟨a0, a1⟩ r h
  exact fn_sound lay_ok mixed (ts := [.tmp 4]) (by kernel_rfl : Try.prog.funcs[23]? = some Try.f23) (by kernel_rfl : Try.f23.body = some c23) (by kernel_rfl) (by kernel_rfl) (by kernel_rfl) (noFns_ok) (K23 n) ((E23 n a0 a1).symm.trans h)

/-! ### orthoepy/orthoepyref20.Same -/

def F14l1F (self : V → V → Option (Bool)) (n : Nat) (rF14l1 : Int → Int → Bool → Int → List UInt8 → List (List UInt8) → List V → Int → Bool → Int → List UInt8 → List (List UInt8) → List V → Option (Bool)) (t6 : Int) (b2_0 : Int) (b2_1 : Bool) (b2_2 : Int) (b2_3 : List UInt8) (b2_4 : List (List UInt8)) (b2_5 : List V) (b3_0 : Int) (b3_1 : Bool) (b3_2 : Int) (b3_3 : List UInt8) (b3_4 : List (List UInt8)) (b3_5 : List V) : Option (Bool) :=
  (bif (decide (t6 < ((b2_5).length : Int))) then
    (bif inB t6 (b2_5).length then
    (bif inB t6 (b3_5).length then
    (match self ((b2_5).getD (Int.toNat t6) (Ty.dflt .value)) ((b3_5).getD (Int.toNat t6) (Ty.dflt .value)) with
    | some r1 =>
    (bif (!r1) then
      some false
    else
      rF14l1 (IntKind.wrap .i64 (t6 + 1)) b2_0 b2_1 b2_2 b2_3 b2_4 b2_5 b3_0 b3_1 b3_2 b3_3 b3_4 b3_5)
    | none => none)
    else none)
    else none)
  else
    some true)
def F14l1 (self : V → V → Option (Bool)) (n : Nat) : Nat → Int → Int → Bool → Int → List UInt8 → List (List UInt8) → List V → Int → Bool → Int → List UInt8 → List (List UInt8) → List V → Option (Bool)
  | 0, _, _, _, _, _, _, _, _, _, _, _, _, _ => none
  | m + 1, t6, b2_0, b2_1, b2_2, b2_3, b2_4, b2_5, b3_0, b3_1, b3_2, b3_3, b3_4, b3_5 => F14l1F self n (F14l1 self n m) t6 b2_0 b2_1 b2_2 b2_3 b2_4 b2_5 b3_0 b3_1 b3_2 b3_3 b3_4 b3_5

def F14l0F (self : V → V → Option (Bool)) (n : Nat) (rF14l0 : Int → Int → Bool → Int → List UInt8 → List (List UInt8) → List V → Int → Bool → Int → List UInt8 → List (List UInt8) → List V → Option (Bool)) (t5 : Int) (b2_0 : Int) (b2_1 : Bool) (b2_2 : Int) (b2_3 : List UInt8) (b2_4 : List (List UInt8)) (b2_5 : List V) (b3_0 : Int) (b3_1 : Bool) (b3_2 : Int) (b3_3 : List UInt8) (b3_4 : List (List UInt8)) (b3_5 : List V) : Option (Bool) :=
  (bif (decide (t5 < ((b2_4).length : Int))) then
    (bif inB t5 (b2_4).length then
    (bif inB t5 (b3_4).length then
    (bif (!(((b2_4).getD (Int.toNat t5) (Ty.dflt .str)) == ((b3_4).getD (Int.toNat t5) (Ty.dflt .str)))) then
      some false
    else
      rF14l0 (IntKind.wrap .i64 (t5 + 1)) b2_0 b2_1 b2_2 b2_3 b2_4 b2_5 b3_0 b3_1 b3_2 b3_3 b3_4 b3_5)
    else none)
    else none)
  else
    F14l1 self n n 0 b2_0 b2_1 b2_2 b2_3 b2_4 b2_5 b3_0 b3_1 b3_2 b3_3 b3_4 b3_5)
def F14l0 (self : V → V → Option (Bool)) (n : Nat) : Nat → Int → Int → Bool → Int → List UInt8 → List (List UInt8) → List V → Int → Bool → Int → List UInt8 → List (List UInt8) → List V → Option (Bool)
  | 0, _, _, _, _, _, _, _, _, _, _, _, _, _ => none
  | m + 1, t5, b2_0, b2_1, b2_2, b2_3, b2_4, b2_5, b3_0, b3_1, b3_2, b3_3, b3_4, b3_5 => F14l0F self n (F14l0 self n m) t5 b2_0 b2_1 b2_2 b2_3 b2_4 b2_5 b3_0 b3_1 b3_2 b3_3 b3_4 b3_5

def F14B (self : V → V → Option (Bool)) (n : Nat) (a0 : V) (a1 : V) : Option (Bool) :=
  (bif (a0.kind != a1.kind) then
    some false
  else
    (bif (!(a0.b == a1.b)) then
      some false
    else
      (bif (a0.n != a1.n) then
        some false
      else
        (bif (!(a0.s == a1.s)) then
          some false
        else
          (bif (((a0.kids).length : Int) != ((a1.kids).length : Int)) then
            some false
          else
            (bif (((a0.names).length : Int) != ((a1.names).length : Int)) then
              some false
            else
              F14l0 self n n 0 a0.kind a0.b a0.n a0.s a0.names a0.kids a1.kind a1.b a1.n a1.s a1.names a1.kids))))))

def F14 : Nat → V → V → Option (Bool)
  | 0, _, _ => none
  | n + 1, a0, a1 => F14B (F14 n) n a0 a1

noncomputable def c14 : Code := Try.f14.body.getD .skip

noncomputable def G14 (self : V → V → Option (Bool)) (n : Nat) : Ctx (Res [.bool]) := ent 14 [.value, .value] [.bool] (fun x => self x.1 x.2) (noFns)

noncomputable def P14 (self : V → V → Option (Bool)) (n : Nat) : Pl (Res [.bool]) :=
  (.two .leaf (.two .leaf (.two (.two .leaf (.one (.loop [.ptr (.tmp 2) 2 0, .ptr (.tmp 3) 3 0, .val (.tmp 5) (.int .i64), .val (.cell 2 0) (.int .i64), .val (.cell 2 1) .bool, .val (.cell 2 2) (.int .i64), .val (.cell 2 3) .str, .val (.cell 2 4) (.slice .str), .val (.cell 2 5) (.slice .value), .val (.cell 3 0) (.int .i64), .val (.cell 3 1) .bool, .val (.cell 3 2) (.int .i64), .val (.cell 3 3) .str, .val (.cell 3 4) (.slice .str), .val (.cell 3 5) (.slice .value), .box 2, .box 3] n (fun m x => F14l0 self n m x.2.2.1 x.2.2.2.1 x.2.2.2.2.1 x.2.2.2.2.2.1 x.2.2.2.2.2.2.1 x.2.2.2.2.2.2.2.1 x.2.2.2.2.2.2.2.2.1 x.2.2.2.2.2.2.2.2.2.1 x.2.2.2.2.2.2.2.2.2.2.1 x.2.2.2.2.2.2.2.2.2.2.2.1 x.2.2.2.2.2.2.2.2.2.2.2.2.1 x.2.2.2.2.2.2.2.2.2.2.2.2.2.1 x.2.2.2.2.2.2.2.2.2.2.2.2.2.2.1) (fun _ => .leaf)))) (.two (.two .leaf (.one (.loop [.ptr (.tmp 2) 2 0, .ptr (.tmp 3) 3 0, .val (.tmp 6) (.int .i64), .val (.cell 2 0) (.int .i64), .val (.cell 2 1) .bool, .val (.cell 2 2) (.int .i64), .val (.cell 2 3) .str, .val (.cell 2 4) (.slice .str), .val (.cell 2 5) (.slice .value), .val (.cell 3 0) (.int .i64), .val (.cell 3 1) .bool, .val (.cell 3 2) (.int .i64), .val (.cell 3 3) .str, .val (.cell 3 4) (.slice .str), .val (.cell 3 5) (.slice .value), .box 2, .box 3] n (fun m x => F14l1 self n m x.2.2.1 x.2.2.2.1 x.2.2.2.2.1 x.2.2.2.2.2.1 x.2.2.2.2.2.2.1 x.2.2.2.2.2.2.2.1 x.2.2.2.2.2.2.2.2.1 x.2.2.2.2.2.2.2.2.2.1 x.2.2.2.2.2.2.2.2.2.2.1 x.2.2.2.2.2.2.2.2.2.2.2.1 x.2.2.2.2.2.2.2.2.2.2.2.2.1 x.2.2.2.2.2.2.2.2.2.2.2.2.2.1 x.2.2.2.2.2.2.2.2.2.2.2.2.2.2.1) (fun _ => .leaf)))) .leaf))))

theorem K14 (self : V → V → Option (Bool)) (n : Nat) : PlOK (G14 self n) lay 88 (P14 self n) c14 (fnK lay [.tmp 4] [.bool]) :=
  ⟨trivial, ⟨trivial, ⟨⟨trivial, ⟨by kernel_rfl, fun x => by kernel_rfl, fun m => ⟨fun x => by kernel_rfl, trivial⟩⟩⟩, ⟨⟨trivial, ⟨by kernel_rfl, fun x => by kernel_rfl, fun m => ⟨fun x => by kernel_rfl, trivial⟩⟩⟩, trivial⟩⟩⟩⟩

theorem E14 (self : V → V → Option (Bool)) (n : Nat) (a0 : V) (a1 : V) : F14B self n a0 a1 = ev (G14 self n) lay 88 c14 (P14 self n) (args0 0 (argDs [.value, .value] (a0, a1))) (fnK lay [.tmp 4] [.bool]) := by kernel_rfl

theorem TB14 (self : V → V → Option (Bool)) (hs : Told Try.prog 14 [.value, .value] [.bool] (fun x => self x.1 x.2)) (n : Nat) : Told Try.prog 14 [.value, .value] [.bool] (fun x => F14B self n x.1 x.2) := by
  rintro ⟨a0, a1⟩ r h
  exact fn_sound lay_ok mixed (ts := [.tmp 4]) (by kernel_rfl : Try.prog.funcs[14]? = some Try.f14) (by kernel_rfl : Try.f14.body = some c14) (by kernel_rfl) (by kernel_rfl) (by kernel_rfl) (ent_ok hs (noFns_ok)) (K14 self n) ((E14 self n a0 a1).symm.trans h)

theorem T14 : ∀ n : Nat, Told Try.prog 14 [.value, .value] [.bool] (fun x => F14 n x.1 x.2)
  | 0 => fun _ _ h => by cases h
  | n + 1 => TB14 (F14 n) (T14 n) n

/-! ### orthoepy/orthoepylaw00.small -/

def F32l2F (self : List Int → Int → Int → Option (V × Int)) (n : Nat) (rF32l2 : List Int → Int → Int → Int → List UInt8 → Int → Int → Bool → Int → List UInt8 → List (List UInt8) → List V → Int → Bool → Int → List UInt8 → List (List UInt8) → List V → Option (V × Int)) (t0 : List Int) (t1 : Int) (t2 : Int) (t8 : Int) (t10 : List UInt8) (t11 : Int) (b6_0 : Int) (b6_1 : Bool) (b6_2 : Int) (b6_3 : List UInt8) (b6_4 : List (List UInt8)) (b6_5 : List V) (b9_0 : Int) (b9_1 : Bool) (b9_2 : Int) (b9_3 : List UInt8) (b9_4 : List (List UInt8)) (b9_5 : List V) : Option (V × Int) :=
  (bif (!(6 == 0)) then
  (bif (!(5 == 0)) then
  (bif (decide (t11 < (Int.tmod (IntKind.wrap .i64 (Int.tdiv t8 6)) 5))) then
    (match self t0 t1 (IntKind.wrap .i64 (t2 - 1)) with
    | some r2 =>
    (bif (b9_0 == 6) then
      (bif (!(30 == 0)) then
      (bif (!(5 == 0)) then
      (bif ((inB (Int.tmod (IntKind.wrap .i64 ((IntKind.wrap .i64 (Int.tdiv t8 30)) + t11)) 5) 5 && true) && true) then
      (bif (decide (((b9_4).length + (([((([([97] : List UInt8), ([98] : List UInt8), ([99] : List UInt8), ([100] : List UInt8), t10] : List (List UInt8))).getD (Int.toNat (Int.tmod (IntKind.wrap .i64 ((IntKind.wrap .i64 (Int.tdiv t8 30)) + t11)) 5)) (Ty.dflt .str))] : List (List UInt8))).length) * 16 ≤ maxRoom) && decide ((b9_4).length + (([((([([97] : List UInt8), ([98] : List UInt8), ([99] : List UInt8), ([100] : List UInt8), t10] : List (List UInt8))).getD (Int.toNat (Int.tmod (IntKind.wrap .i64 ((IntKind.wrap .i64 (Int.tdiv t8 30)) + t11)) 5)) (Ty.dflt .str))] : List (List UInt8))).length ≤ maxRoom)) then
      (bif (decide (((b9_5).length + (([(V.mk r2.1.kind r2.1.b r2.1.n r2.1.s r2.1.names r2.1.kids)] : List V)).length) * 88 ≤ maxRoom) && decide ((b9_5).length + (([(V.mk r2.1.kind r2.1.b r2.1.n r2.1.s r2.1.names r2.1.kids)] : List V)).length ≤ maxRoom)) then
      rF32l2 t0 r2.2 t2 t8 t10 (IntKind.wrap .i64 (t11 + 1)) b6_0 b6_1 b6_2 b6_3 b6_4 b6_5 b9_0 b9_1 b9_2 b9_3 (b9_4 ++ ([((([([97] : List UInt8), ([98] : List UInt8), ([99] : List UInt8), ([100] : List UInt8), t10] : List (List UInt8))).getD (Int.toNat (Int.tmod (IntKind.wrap .i64 ((IntKind.wrap .i64 (Int.tdiv t8 30)) + t11)) 5)) (Ty.dflt .str))] : List (List UInt8))) (b9_5 ++ ([(V.mk r2.1.kind r2.1.b r2.1.n r2.1.s r2.1.names r2.1.kids)] : List V))
      else none)
      else none)
      else none)
      else none)
      else none)
    else
      (bif (decide (((b9_5).length + (([(V.mk r2.1.kind r2.1.b r2.1.n r2.1.s r2.1.names r2.1.kids)] : List V)).length) * 88 ≤ maxRoom) && decide ((b9_5).length + (([(V.mk r2.1.kind r2.1.b r2.1.n r2.1.s r2.1.names r2.1.kids)] : List V)).length ≤ maxRoom)) then
      rF32l2 t0 r2.2 t2 t8 t10 (IntKind.wrap .i64 (t11 + 1)) b6_0 b6_1 b6_2 b6_3 b6_4 b6_5 b9_0 b9_1 b9_2 b9_3 b9_4 (b9_5 ++ ([(V.mk r2.1.kind r2.1.b r2.1.n r2.1.s r2.1.names r2.1.kids)] : List V))
      else none))
    | none => none)
  else
    some ((V.mk b9_0 b9_1 b9_2 b9_3 b9_4 b9_5), t1))
  else none)
  else none)
def F32l2 (self : List Int → Int → Int → Option (V × Int)) (n : Nat) : Nat → List Int → Int → Int → Int → List UInt8 → Int → Int → Bool → Int → List UInt8 → List (List UInt8) → List V → Int → Bool → Int → List UInt8 → List (List UInt8) → List V → Option (V × Int)
  | 0, _, _, _, _, _, _, _, _, _, _, _, _, _, _, _, _, _, _ => none
  | m + 1, t0, t1, t2, t8, t10, t11, b6_0, b6_1, b6_2, b6_3, b6_4, b6_5, b9_0, b9_1, b9_2, b9_3, b9_4, b9_5 => F32l2F self n (F32l2 self n m) t0 t1 t2 t8 t10 t11 b6_0 b6_1 b6_2 b6_3 b6_4 b6_5 b9_0 b9_1 b9_2 b9_3 b9_4 b9_5

def F32j1 (self : List Int → Int → Int → Option (V × Int)) (n : Nat) (t0 : List Int) (t1 : Int) (t2 : Int) (t8 : Int) (b6_0 : Int) (b6_1 : Bool) (b6_2 : Int) (b6_3 : List UInt8) (b6_4 : List (List UInt8)) (b6_5 : List V) (b9_0 : Int) (b9_1 : Bool) (b9_2 : Int) (b9_3 : List UInt8) (b9_4 : List (List UInt8)) (b9_5 : List V) : Option (V × Int) :=
  (bif (!(150 == 0)) then
  (bif (!(2 == 0)) then
  (bif ((inB (Int.tmod (IntKind.wrap .i64 (Int.tdiv t8 150)) 2) 2 && true) && true) then
  F32l2 self n n t0 t1 t2 t8 ((([([195, 169] : List UInt8), ([101, 204, 129] : List UInt8)] : List (List UInt8))).getD (Int.toNat (Int.tmod (IntKind.wrap .i64 (Int.tdiv t8 150)) 2)) (Ty.dflt .str)) 0 b6_0 b6_1 b6_2 b6_3 b6_4 b6_5 b9_0 b9_1 b9_2 b9_3 b9_4 b9_5
  else none)
  else none)
  else none)

def F32j0 (self : List Int → Int → Int → Option (V × Int)) (n : Nat) (t0 : List Int) (t1 : Int) (t2 : Int) (t8 : Int) (b6_0 : Int) (b6_1 : Bool) (b6_2 : Int) (b6_3 : List UInt8) (b6_4 : List (List UInt8)) (b6_5 : List V) : Option (V × Int) :=
  (bif (t2 == 0) then
    (bif (!(6 == 0)) then
    (bif (!(4 == 0)) then
    (bif ((Int.tmod (IntKind.wrap .i64 (Int.tdiv t8 6)) 4) == 0) then
      some ((V.mk 1 false 0 ([] : List UInt8) ([] : List (List UInt8)) ([] : List V)), (IntKind.wrap .i64 (t1 + 1)))
    else
      (bif ((Int.tmod (IntKind.wrap .i64 (Int.tdiv t8 6)) 4) == 1) then
        (bif (!(24 == 0)) then
        (bif (!(3 == 0)) then
        some ((V.mk 3 false (Int.tmod (IntKind.wrap .i64 (Int.tdiv t8 24)) 3) ([] : List UInt8) ([] : List (List UInt8)) ([] : List V)), (IntKind.wrap .i64 (t1 + 1)))
        else none)
        else none)
      else
        (bif ((Int.tmod (IntKind.wrap .i64 (Int.tdiv t8 6)) 4) == 2) then
          (bif (!(24 == 0)) then
          (bif (!(2 == 0)) then
          some ((V.mk 2 ((Int.tmod (IntKind.wrap .i64 (Int.tdiv t8 24)) 2) == 0) 0 ([] : List UInt8) ([] : List (List UInt8)) ([] : List V)), (IntKind.wrap .i64 (t1 + 1)))
          else none)
          else none)
        else
          (bif (!(24 == 0)) then
          (bif (!(3 == 0)) then
          (bif ((inB (Int.tmod (IntKind.wrap .i64 (Int.tdiv t8 24)) 3) 3 && true) && true) then
          some ((V.mk 4 false 0 ((([([] : List UInt8), ([97] : List UInt8), ([195, 169] : List UInt8)] : List (List UInt8))).getD (Int.toNat (Int.tmod (IntKind.wrap .i64 (Int.tdiv t8 24)) 3)) (Ty.dflt .str)) ([] : List (List UInt8)) ([] : List V)), (IntKind.wrap .i64 (t1 + 1)))
          else none)
          else none)
          else none))))
    else none)
    else none)
  else
    (bif (!(6 == 0)) then
    (bif (decide ((Int.tmod t8 6) < 2)) then
      (bif (!(6 == 0)) then
      (bif (!(4 == 0)) then
      (bif ((Int.tmod (IntKind.wrap .i64 (Int.tdiv t8 6)) 4) == 0) then
        some ((V.mk 1 false 0 ([] : List UInt8) ([] : List (List UInt8)) ([] : List V)), (IntKind.wrap .i64 (t1 + 1)))
      else
        (bif ((Int.tmod (IntKind.wrap .i64 (Int.tdiv t8 6)) 4) == 1) then
          (bif (!(24 == 0)) then
          (bif (!(3 == 0)) then
          some ((V.mk 3 false (Int.tmod (IntKind.wrap .i64 (Int.tdiv t8 24)) 3) ([] : List UInt8) ([] : List (List UInt8)) ([] : List V)), (IntKind.wrap .i64 (t1 + 1)))
          else none)
          else none)
        else
          (bif ((Int.tmod (IntKind.wrap .i64 (Int.tdiv t8 6)) 4) == 2) then
            (bif (!(24 == 0)) then
            (bif (!(2 == 0)) then
            some ((V.mk 2 ((Int.tmod (IntKind.wrap .i64 (Int.tdiv t8 24)) 2) == 0) 0 ([] : List UInt8) ([] : List (List UInt8)) ([] : List V)), (IntKind.wrap .i64 (t1 + 1)))
            else none)
            else none)
          else
            (bif (!(24 == 0)) then
            (bif (!(3 == 0)) then
            (bif ((inB (Int.tmod (IntKind.wrap .i64 (Int.tdiv t8 24)) 3) 3 && true) && true) then
            some ((V.mk 4 false 0 ((([([] : List UInt8), ([97] : List UInt8), ([195, 169] : List UInt8)] : List (List UInt8))).getD (Int.toNat (Int.tmod (IntKind.wrap .i64 (Int.tdiv t8 24)) 3)) (Ty.dflt .str)) ([] : List (List UInt8)) ([] : List V)), (IntKind.wrap .i64 (t1 + 1)))
            else none)
            else none)
            else none))))
      else none)
      else none)
    else
      (bif (decide ((IntKind.wrap .i64 (t1 + 1)) > ((t0).length : Int))) then
        (bif (!(6 == 0)) then
        (bif (!(4 == 0)) then
        (bif ((Int.tmod (IntKind.wrap .i64 (Int.tdiv t8 6)) 4) == 0) then
          some ((V.mk 1 false 0 ([] : List UInt8) ([] : List (List UInt8)) ([] : List V)), (IntKind.wrap .i64 (t1 + 1)))
        else
          (bif ((Int.tmod (IntKind.wrap .i64 (Int.tdiv t8 6)) 4) == 1) then
            (bif (!(24 == 0)) then
            (bif (!(3 == 0)) then
            some ((V.mk 3 false (Int.tmod (IntKind.wrap .i64 (Int.tdiv t8 24)) 3) ([] : List UInt8) ([] : List (List UInt8)) ([] : List V)), (IntKind.wrap .i64 (t1 + 1)))
            else none)
            else none)
          else
            (bif ((Int.tmod (IntKind.wrap .i64 (Int.tdiv t8 6)) 4) == 2) then
              (bif (!(24 == 0)) then
              (bif (!(2 == 0)) then
              some ((V.mk 2 ((Int.tmod (IntKind.wrap .i64 (Int.tdiv t8 24)) 2) == 0) 0 ([] : List UInt8) ([] : List (List UInt8)) ([] : List V)), (IntKind.wrap .i64 (t1 + 1)))
              else none)
              else none)
            else
              (bif (!(24 == 0)) then
              (bif (!(3 == 0)) then
              (bif ((inB (Int.tmod (IntKind.wrap .i64 (Int.tdiv t8 24)) 3) 3 && true) && true) then
              some ((V.mk 4 false 0 ((([([] : List UInt8), ([97] : List UInt8), ([195, 169] : List UInt8)] : List (List UInt8))).getD (Int.toNat (Int.tmod (IntKind.wrap .i64 (Int.tdiv t8 24)) 3)) (Ty.dflt .str)) ([] : List (List UInt8)) ([] : List V)), (IntKind.wrap .i64 (t1 + 1)))
              else none)
              else none)
              else none))))
        else none)
        else none)
      else
        (bif (!(6 == 0)) then
        (bif ((Int.tmod t8 6) == 5) then
          F32j1 self n t0 (IntKind.wrap .i64 (t1 + 1)) t2 t8 b6_0 b6_1 b6_2 b6_3 b6_4 b6_5 5 false 0 ([] : List UInt8) ([] : List (List UInt8)) ([] : List V)
        else
          F32j1 self n t0 (IntKind.wrap .i64 (t1 + 1)) t2 t8 b6_0 b6_1 b6_2 b6_3 b6_4 b6_5 6 false 0 ([] : List UInt8) ([] : List (List UInt8)) ([] : List V))
        else none)))
    else none))

def F32B (self : List Int → Int → Int → Option (V × Int)) (n : Nat) (a0 : List Int) (a1 : Int) (a2 : Int) : Option (V × Int) :=
  (bif (decide (a1 < ((a0).length : Int))) then
    (bif inB a1 (a0).length then
    (match F23 n ((a0).getD (Int.toNat a1) (Ty.dflt (.int .i64))) 1099511627776 with
    | some r1 =>
    F32j0 self n a0 a1 a2 r1 0 false 0 ([] : List UInt8) ([] : List (List UInt8)) ([] : List V)
    | none => none)
    else none)
  else
    F32j0 self n a0 a1 a2 0 0 false 0 ([] : List UInt8) ([] : List (List UInt8)) ([] : List V))

def F32 : Nat → List Int → Int → Int → Option (V × Int)
  | 0, _, _, _ => none
  | n + 1, a0, a1, a2 => F32B (F32 n) n a0 a1 a2

noncomputable def c32 : Code := Try.f32.body.getD .skip

noncomputable def G32 (self : List Int → Int → Int → Option (V × Int)) (n : Nat) : Ctx (Res [.value, .int .i64]) := ent 23 [.int .i64, .int .i64] [.int .i64] (fun x => F23 n x.1 x.2) (ent 32 [.slice (.int .i64), .int .i64, .int .i64] [.value, .int .i64] (fun x => self x.1 x.2.1 x.2.2) (noFns))

noncomputable def P32 (self : List Int → Int → Int → Option (V × Int)) (n : Nat) : Pl (Res [.value, .int .i64]) :=
  (.two .leaf (.two .leaf (.join [.val (.tmp 0) (.slice (.int .i64)), .val (.tmp 1) (.int .i64), .val (.tmp 2) (.int .i64), .ptr (.tmp 6) 6 0, .val (.tmp 8) (.int .i64), .val (.cell 6 0) (.int .i64), .val (.cell 6 1) .bool, .val (.cell 6 2) (.int .i64), .val (.cell 6 3) .str, .vec (.cell 6 4) 10604 9 .str, .vec (.cell 6 5) 10605 30 .value, .box 6] (fun x => F32j0 self n x.1 x.2.1 x.2.2.1 x.2.2.2.2.1 x.2.2.2.2.2.1 x.2.2.2.2.2.2.1 x.2.2.2.2.2.2.2.1 x.2.2.2.2.2.2.2.2.1 x.2.2.2.2.2.2.2.2.2.1 x.2.2.2.2.2.2.2.2.2.2.1) .leaf (.two .leaf (.two .leaf (.two .leaf (.join [.val (.tmp 0) (.slice (.int .i64)), .val (.tmp 1) (.int .i64), .val (.tmp 2) (.int .i64), .ptr (.tmp 6) 6 0, .val (.tmp 8) (.int .i64), .ptr (.tmp 9) 9 0, .val (.cell 6 0) (.int .i64), .val (.cell 6 1) .bool, .val (.cell 6 2) (.int .i64), .val (.cell 6 3) .str, .vec (.cell 6 4) 10604 9 .str, .vec (.cell 6 5) 10605 30 .value, .val (.cell 9 0) (.int .i64), .val (.cell 9 1) .bool, .val (.cell 9 2) (.int .i64), .val (.cell 9 3) .str, .vec (.cell 9 4) 10904 9 .str, .vec (.cell 9 5) 10905 30 .value, .box 6, .box 9] (fun x => F32j1 self n x.1 x.2.1 x.2.2.1 x.2.2.2.2.1 x.2.2.2.2.2.2.1 x.2.2.2.2.2.2.2.1 x.2.2.2.2.2.2.2.2.1 x.2.2.2.2.2.2.2.2.2.1 x.2.2.2.2.2.2.2.2.2.2.1 x.2.2.2.2.2.2.2.2.2.2.2.1 x.2.2.2.2.2.2.2.2.2.2.2.2.1 x.2.2.2.2.2.2.2.2.2.2.2.2.2.1 x.2.2.2.2.2.2.2.2.2.2.2.2.2.2.1 x.2.2.2.2.2.2.2.2.2.2.2.2.2.2.2.1 x.2.2.2.2.2.2.2.2.2.2.2.2.2.2.2.2.1 x.2.2.2.2.2.2.2.2.2.2.2.2.2.2.2.2.2.1) .leaf (.two .leaf (.two (.two .leaf (.one (.loop [.val (.tmp 0) (.slice (.int .i64)), .val (.tmp 1) (.int .i64), .val (.tmp 2) (.int .i64), .ptr (.tmp 6) 6 0, .val (.tmp 8) (.int .i64), .ptr (.tmp 9) 9 0, .val (.tmp 10) .str, .val (.tmp 11) (.int .i64), .val (.cell 6 0) (.int .i64), .val (.cell 6 1) .bool, .val (.cell 6 2) (.int .i64), .val (.cell 6 3) .str, .vec (.cell 6 4) 10604 9 .str, .vec (.cell 6 5) 10605 30 .value, .val (.cell 9 0) (.int .i64), .val (.cell 9 1) .bool, .val (.cell 9 2) (.int .i64), .val (.cell 9 3) .str, .vec (.cell 9 4) 10904 9 .str, .vec (.cell 9 5) 10905 30 .value, .box 6, .box 9] n (fun m x => F32l2 self n m x.1 x.2.1 x.2.2.1 x.2.2.2.2.1 x.2.2.2.2.2.2.1 x.2.2.2.2.2.2.2.1 x.2.2.2.2.2.2.2.2.1 x.2.2.2.2.2.2.2.2.2.1 x.2.2.2.2.2.2.2.2.2.2.1 x.2.2.2.2.2.2.2.2.2.2.2.1 x.2.2.2.2.2.2.2.2.2.2.2.2.1 x.2.2.2.2.2.2.2.2.2.2.2.2.2.1 x.2.2.2.2.2.2.2.2.2.2.2.2.2.2.1 x.2.2.2.2.2.2.2.2.2.2.2.2.2.2.2.1 x.2.2.2.2.2.2.2.2.2.2.2.2.2.2.2.2.1 x.2.2.2.2.2.2.2.2.2.2.2.2.2.2.2.2.2.1 x.2.2.2.2.2.2.2.2.2.2.2.2.2.2.2.2.2.2.1 x.2.2.2.2.2.2.2.2.2.2.2.2.2.2.2.2.2.2.2.1) (fun _ => .leaf)))) .leaf)))))))))

theorem K32 (self : List Int → Int → Int → Option (V × Int)) (n : Nat) : PlOK (G32 self n) lay 117 (P32 self n) c32 (fnK lay [.cell 6 30, .tmp 7] [.value, .int .i64]) :=
  ⟨trivial, ⟨trivial, ⟨by kernel_rfl, fun x => by kernel_rfl, trivial, ⟨trivial, ⟨trivial, ⟨trivial, ⟨by kernel_rfl, fun x => by kernel_rfl, trivial, ⟨trivial, ⟨⟨trivial, ⟨by kernel_rfl, fun x => by kernel_rfl, fun m => ⟨fun x => by kernel_rfl, trivial⟩⟩⟩, trivial⟩⟩⟩⟩⟩⟩⟩⟩⟩

theorem E32 (self : List Int → Int → Int → Option (V × Int)) (n : Nat) (a0 : List Int) (a1 : Int) (a2 : Int) : F32B self n a0 a1 a2 = ev (G32 self n) lay 117 c32 (P32 self n) (args0 0 (argDs [.slice (.int .i64), .int .i64, .int .i64] (a0, a1, a2))) (fnK lay [.cell 6 30, .tmp 7] [.value, .int .i64]) := by kernel_rfl

theorem TB32 (self : List Int → Int → Int → Option (V × Int)) (hs : Told Try.prog 32 [.slice (.int .i64), .int .i64, .int .i64] [.value, .int .i64] (fun x => self x.1 x.2.1 x.2.2)) (n : Nat) : Told Try.prog 32 [.slice (.int .i64), .int .i64, .int .i64] [.value, .int .i64] (fun x => F32B self n x.1 x.2.1 x.2.2) := by
  rintro ⟨a0, a1, a2⟩ r h
  exact fn_sound lay_ok mixed (ts := [.cell 6 30, .tmp 7]) (by kernel_rfl : Try.prog.funcs[32]? = some Try.f32) (by kernel_rfl : Try.f32.body = some c32) (by kernel_rfl) (by kernel_rfl) (by kernel_rfl) (ent_ok (T23 n) (ent_ok hs (noFns_ok))) (K32 self n) ((E32 self n a0 a1 a2).symm.trans h)

theorem T32 : ∀ n : Nat, Told Try.prog 32 [.slice (.int .i64), .int .i64, .int .i64] [.value, .int .i64] (fun x => F32 n x.1 x.2.1 x.2.2)
  | 0 => fun _ _ h => by cases h
  | n + 1 => TB32 (F32 n) (T32 n) n

/-! ### orthoepy/orthoepylaw00.Small -/

def F17 (n : Nat) (a0 : List Int) : Option (V) :=
  (match F32 n a0 0 4 with
  | some r1 =>
  some (V.mk r1.1.kind r1.1.b r1.1.n r1.1.s r1.1.names r1.1.kids)
  | none => none)

noncomputable def c17 : Code := Try.f17.body.getD .skip

noncomputable def G17 (n : Nat) : Ctx (Res [.value]) := ent 32 [.slice (.int .i64), .int .i64, .int .i64] [.value, .int .i64] (fun x => F32 n x.1 x.2.1 x.2.2) (noFns)

noncomputable def P17 (n : Nat) : Pl (Res [.value]) :=
  .leaf

theorem K17 (n : Nat) : PlOK (G17 n) lay 11 (P17 n) c17 (fnK lay [.cell 2 30] [.value]) :=
  trivial

theorem E17 (n : Nat) (a0 : List Int) : F17 n a0 = ev (G17 n) lay 11 c17 (P17 n) (args0 0 (argDs [.slice (.int .i64)] (a0))) (fnK lay [.cell 2 30] [.value]) := by kernel_rfl

theorem T17 (n : Nat) : Told Try.prog 17 [.slice (.int .i64)] [.value] (fun x => F17 n x) := by
  rintro a0 r h
  exact fn_sound lay_ok mixed (ts := [.cell 2 30]) (by kernel_rfl : Try.prog.funcs[17]? = some Try.f17) (by kernel_rfl : Try.f17.body = some c17) (by kernel_rfl) (by kernel_rfl) (by kernel_rfl) (ent_ok (T32 n) (noFns_ok)) (K17 n) ((E17 n a0).symm.trans h)

/-! ### orthoepy/orthoepylaw26.member -/

def F18l0F (n : Nat) (rF18l0 : List UInt8 → Int → Int → Bool → Int → List UInt8 → List (List UInt8) → List V → Option (Int)) (t1 : List UInt8) (t5 : Int) (b2_0 : Int) (b2_1 : Bool) (b2_2 : Int) (b2_3 : List UInt8) (b2_4 : List (List UInt8)) (b2_5 : List V) : Option (Int) :=
  (bif (decide (t5 < ((b2_4).length : Int))) then
    (bif (b2_0 == 6) then
      (bif inB t5 (b2_4).length then
      (bif (((b2_4).getD (Int.toNat t5) (Ty.dflt .str)) == t1) then
        some t5
      else
        rF18l0 t1 (IntKind.wrap .i64 (t5 + 1)) b2_0 b2_1 b2_2 b2_3 b2_4 b2_5)
      else none)
    else
      some (-1))
  else
    some (-1))
def F18l0 (n : Nat) : Nat → List UInt8 → Int → Int → Bool → Int → List UInt8 → List (List UInt8) → List V → Option (Int)
  | 0, _, _, _, _, _, _, _, _ => none
  | m + 1, t1, t5, b2_0, b2_1, b2_2, b2_3, b2_4, b2_5 => F18l0F n (F18l0 n m) t1 t5 b2_0 b2_1 b2_2 b2_3 b2_4 b2_5

def F18 (n : Nat) (a0 : V) (a1 : List UInt8) : Option (Int) :=
  F18l0 n n a1 0 a0.kind a0.b a0.n a0.s a0.names a0.kids

noncomputable def c18 : Code := Try.f18.body.getD .skip

noncomputable def G18 (n : Nat) : Ctx (Res [.int .i64]) := noFns

noncomputable def P18 (n : Nat) : Pl (Res [.int .i64]) :=
  (.two .leaf (.two (.two .leaf (.one (.loop [.val (.tmp 1) .str, .ptr (.tmp 2) 2 0, .val (.tmp 5) (.int .i64), .val (.cell 2 0) (.int .i64), .val (.cell 2 1) .bool, .val (.cell 2 2) (.int .i64), .val (.cell 2 3) .str, .val (.cell 2 4) (.slice .str), .val (.cell 2 5) (.slice .value), .box 2] n (fun m x => F18l0 n m x.1 x.2.2.1 x.2.2.2.1 x.2.2.2.2.1 x.2.2.2.2.2.1 x.2.2.2.2.2.2.1 x.2.2.2.2.2.2.2.1 x.2.2.2.2.2.2.2.2.1) (fun _ => .leaf)))) .leaf))

theorem K18 (n : Nat) : PlOK (G18 n) lay 26 (P18 n) c18 (fnK lay [.tmp 4] [.int .i64]) :=
  ⟨trivial, ⟨⟨trivial, ⟨by kernel_rfl, fun x => by kernel_rfl, fun m => ⟨fun x => by kernel_rfl, trivial⟩⟩⟩, trivial⟩⟩

theorem E18 (n : Nat) (a0 : V) (a1 : List UInt8) : F18 n a0 a1 = ev (G18 n) lay 26 c18 (P18 n) (args0 0 (argDs [.value, .str] (a0, a1))) (fnK lay [.tmp 4] [.int .i64]) := by kernel_rfl

theorem T18 (n : Nat) : Told Try.prog 18 [.value, .str] [.int .i64] (fun x => F18 n x.1 x.2) := by
  rintro ⟨a0, a1⟩ r h
  exact fn_sound lay_ok mixed (ts := [.tmp 4]) (by kernel_rfl : Try.prog.funcs[18]? = some Try.f18) (by kernel_rfl : Try.f18.body = some c18) (by kernel_rfl) (by kernel_rfl) (by kernel_rfl) (noFns_ok) (K18 n) ((E18 n a0 a1).symm.trans h)

/-! ### orthoepy/orthoepylaw26.bare -/

def F19l0F (self : V → Option (V)) (n : Nat) (rF19l0 : Int → Int → Bool → Int → List UInt8 → List (List UInt8) → List V → Int → Bool → Int → List UInt8 → List (List UInt8) → List V → Int → Bool → Int → List UInt8 → List (List UInt8) → List V → Option (V)) (t4 : Int) (b1_0 : Int) (b1_1 : Bool) (b1_2 : Int) (b1_3 : List UInt8) (b1_4 : List (List UInt8)) (b1_5 : List V) (b2_0 : Int) (b2_1 : Bool) (b2_2 : Int) (b2_3 : List UInt8) (b2_4 : List (List UInt8)) (b2_5 : List V) (b3_0 : Int) (b3_1 : Bool) (b3_2 : Int) (b3_3 : List UInt8) (b3_4 : List (List UInt8)) (b3_5 : List V) : Option (V) :=
  (bif (decide (t4 < ((b1_5).length : Int))) then
    (bif inB t4 (b1_5).length then
    (bif (((b1_5).getD (Int.toNat t4) (Ty.dflt .value)).kind != 1) then
      (bif inB t4 (b1_4).length then
      (bif (decide (((b3_4).length + (([((b1_4).getD (Int.toNat t4) (Ty.dflt .str))] : List (List UInt8))).length) * 16 ≤ maxRoom) && decide ((b3_4).length + (([((b1_4).getD (Int.toNat t4) (Ty.dflt .str))] : List (List UInt8))).length ≤ maxRoom)) then
      (bif inB t4 (b1_5).length then
      (match self ((b1_5).getD (Int.toNat t4) (Ty.dflt .value)) with
      | some r1 =>
      (bif (decide (((b3_5).length + (([r1] : List V)).length) * 88 ≤ maxRoom) && decide ((b3_5).length + (([r1] : List V)).length ≤ maxRoom)) then
      rF19l0 (IntKind.wrap .i64 (t4 + 1)) b1_0 b1_1 b1_2 b1_3 b1_4 b1_5 b2_0 b2_1 b2_2 b2_3 b2_4 b2_5 b3_0 b3_1 b3_2 b3_3 (b3_4 ++ ([((b1_4).getD (Int.toNat t4) (Ty.dflt .str))] : List (List UInt8))) (b3_5 ++ ([r1] : List V))
      else none)
      | none => none)
      else none)
      else none)
      else none)
    else
      rF19l0 (IntKind.wrap .i64 (t4 + 1)) b1_0 b1_1 b1_2 b1_3 b1_4 b1_5 b2_0 b2_1 b2_2 b2_3 b2_4 b2_5 b3_0 b3_1 b3_2 b3_3 b3_4 b3_5)
    else none)
  else
    some (V.mk b3_0 b3_1 b3_2 b3_3 b3_4 b3_5))
def F19l0 (self : V → Option (V)) (n : Nat) : Nat → Int → Int → Bool → Int → List UInt8 → List (List UInt8) → List V → Int → Bool → Int → List UInt8 → List (List UInt8) → List V → Int → Bool → Int → List UInt8 → List (List UInt8) → List V → Option (V)
  | 0, _, _, _, _, _, _, _, _, _, _, _, _, _, _, _, _, _, _, _ => none
  | m + 1, t4, b1_0, b1_1, b1_2, b1_3, b1_4, b1_5, b2_0, b2_1, b2_2, b2_3, b2_4, b2_5, b3_0, b3_1, b3_2, b3_3, b3_4, b3_5 => F19l0F self n (F19l0 self n m) t4 b1_0 b1_1 b1_2 b1_3 b1_4 b1_5 b2_0 b2_1 b2_2 b2_3 b2_4 b2_5 b3_0 b3_1 b3_2 b3_3 b3_4 b3_5

def F19B (self : V → Option (V)) (n : Nat) (a0 : V) : Option (V) :=
  (bif (a0.kind != 6) then
    some (V.mk a0.kind a0.b a0.n a0.s a0.names a0.kids)
  else
    F19l0 self n n 0 a0.kind a0.b a0.n a0.s a0.names a0.kids 0 false 0 ([] : List UInt8) ([] : List (List UInt8)) ([] : List V) 6 false 0 ([] : List UInt8) ([] : List (List UInt8)) ([] : List V))

def F19 : Nat → V → Option (V)
  | 0, _ => none
  | n + 1, a0 => F19B (F19 n) n a0

noncomputable def c19 : Code := Try.f19.body.getD .skip

noncomputable def G19 (self : V → Option (V)) (n : Nat) : Ctx (Res [.value]) := ent 19 [.value] [.value] (fun x => self x) (noFns)

noncomputable def P19 (self : V → Option (V)) (n : Nat) : Pl (Res [.value]) :=
  (.two .leaf (.two .leaf (.two .leaf (.two (.two .leaf (.one (.loop [.ptr (.tmp 1) 1 0, .ptr (.tmp 2) 2 0, .ptr (.tmp 3) 3 0, .val (.tmp 4) (.int .i64), .val (.cell 1 0) (.int .i64), .val (.cell 1 1) .bool, .val (.cell 1 2) (.int .i64), .val (.cell 1 3) .str, .val (.cell 1 4) (.slice .str), .val (.cell 1 5) (.slice .value), .val (.cell 2 0) (.int .i64), .val (.cell 2 1) .bool, .val (.cell 2 2) (.int .i64), .val (.cell 2 3) .str, .vec (.cell 2 4) 10204 9 .str, .vec (.cell 2 5) 10205 30 .value, .val (.cell 3 0) (.int .i64), .val (.cell 3 1) .bool, .val (.cell 3 2) (.int .i64), .val (.cell 3 3) .str, .vec (.cell 3 4) 10304 9 .str, .vec (.cell 3 5) 10305 30 .value, .box 1, .box 2, .box 3] n (fun m x => F19l0 self n m x.2.2.2.1 x.2.2.2.2.1 x.2.2.2.2.2.1 x.2.2.2.2.2.2.1 x.2.2.2.2.2.2.2.1 x.2.2.2.2.2.2.2.2.1 x.2.2.2.2.2.2.2.2.2.1 x.2.2.2.2.2.2.2.2.2.2.1 x.2.2.2.2.2.2.2.2.2.2.2.1 x.2.2.2.2.2.2.2.2.2.2.2.2.1 x.2.2.2.2.2.2.2.2.2.2.2.2.2.1 x.2.2.2.2.2.2.2.2.2.2.2.2.2.2.1 x.2.2.2.2.2.2.2.2.2.2.2.2.2.2.2.1 x.2.2.2.2.2.2.2.2.2.2.2.2.2.2.2.2.1 x.2.2.2.2.2.2.2.2.2.2.2.2.2.2.2.2.2.1 x.2.2.2.2.2.2.2.2.2.2.2.2.2.2.2.2.2.2.1 x.2.2.2.2.2.2.2.2.2.2.2.2.2.2.2.2.2.2.2.1 x.2.2.2.2.2.2.2.2.2.2.2.2.2.2.2.2.2.2.2.2.1 x.2.2.2.2.2.2.2.2.2.2.2.2.2.2.2.2.2.2.2.2.2.1) (fun _ => .leaf)))) .leaf))))

theorem K19 (self : V → Option (V)) (n : Nat) : PlOK (G19 self n) lay 46 (P19 self n) c19 (fnK lay [.cell 2 30] [.value]) :=
  ⟨trivial, ⟨trivial, ⟨trivial, ⟨⟨trivial, ⟨by kernel_rfl, fun x => by kernel_rfl, fun m => ⟨fun x => by kernel_rfl, trivial⟩⟩⟩, trivial⟩⟩⟩⟩

theorem E19 (self : V → Option (V)) (n : Nat) (a0 : V) : F19B self n a0 = ev (G19 self n) lay 46 c19 (P19 self n) (args0 0 (argDs [.value] (a0))) (fnK lay [.cell 2 30] [.value]) := by kernel_rfl

theorem TB19 (self : V → Option (V)) (hs : Told Try.prog 19 [.value] [.value] (fun x => self x)) (n : Nat) : Told Try.prog 19 [.value] [.value] (fun x => F19B self n x) := by
  rintro a0 r h
  exact fn_sound lay_ok mixed (ts := [.cell 2 30]) (by kernel_rfl : Try.prog.funcs[19]? = some Try.f19) (by kernel_rfl : Try.f19.body = some c19) (by kernel_rfl) (by kernel_rfl) (by kernel_rfl) (ent_ok hs (noFns_ok)) (K19 self n) ((E19 self n a0).symm.trans h)

theorem T19 : ∀ n : Nat, Told Try.prog 19 [.value] [.value] (fun x => F19 n x)
  | 0 => fun _ _ h => by cases h
  | n + 1 => TB19 (F19 n) (T19 n) n

/-! ### slices.Index[[]string,string] -/

def F29l0F (n : Nat) (rF29l0 : List (List UInt8) → List UInt8 → Int → Int → Option (Int)) (t0 : List (List UInt8)) (t1 : List UInt8) (t7 : Int) (t8 : Int) : Option (Int) :=
  (bif (decide (t8 < t7)) then
    (bif inB t8 (t0).length then
    (bif (t1 == ((t0).getD (Int.toNat t8) (Ty.dflt .str))) then
      some t8
    else
      rF29l0 t0 t1 t7 (IntKind.wrap .i64 (t8 + 1)))
    else none)
  else
    some (-1))
def F29l0 (n : Nat) : Nat → List (List UInt8) → List UInt8 → Int → Int → Option (Int)
  | 0, _, _, _, _ => none
  | m + 1, t0, t1, t7, t8 => F29l0F n (F29l0 n m) t0 t1 t7 t8

def F29 (n : Nat) (a0 : List (List UInt8)) (a1 : List UInt8) : Option (Int) :=
  F29l0 n n a0 a1 ((a0).length : Int) 0

noncomputable def c29 : Code := Try.f29.body.getD .skip

noncomputable def G29 (n : Nat) : Ctx (Res [.int .i64]) := noFns

noncomputable def P29 (n : Nat) : Pl (Res [.int .i64]) :=
  (.two .leaf (.two (.two .leaf (.one (.loop [.val (.tmp 0) (.slice .str), .val (.tmp 1) .str, .val (.tmp 7) (.int .i64), .val (.tmp 8) (.int .i64)] n (fun m x => F29l0 n m x.1 x.2.1 x.2.2.1 x.2.2.2.1) (fun _ => .leaf)))) .leaf))

theorem K29 (n : Nat) : PlOK (G29 n) lay 19 (P29 n) c29 (fnK lay [.tmp 4] [.int .i64]) :=
  ⟨trivial, ⟨⟨trivial, ⟨by kernel_rfl, fun x => by kernel_rfl, fun m => ⟨fun x => by kernel_rfl, trivial⟩⟩⟩, trivial⟩⟩

theorem E29 (n : Nat) (a0 : List (List UInt8)) (a1 : List UInt8) : F29 n a0 a1 = ev (G29 n) lay 19 c29 (P29 n) (args0 0 (argDs [.slice .str, .str] (a0, a1))) (fnK lay [.tmp 4] [.int .i64]) := by kernel_rfl

theorem T29 (n : Nat) : Told Try.prog 29 [.slice .str, .str] [.int .i64] (fun x => F29 n x.1 x.2) := by
  rintro ⟨a0, a1⟩ r h
  exact fn_sound lay_ok mixed (ts := [.tmp 4]) (by kernel_rfl : Try.prog.funcs[29]? = some Try.f29) (by kernel_rfl : Try.f29.body = some c29) (by kernel_rfl) (by kernel_rfl) (by kernel_rfl) (noFns_ok) (K29 n) ((E29 n a0 a1).symm.trans h)

/-! ### orthoepy/patch.Merge -/

def F15j2 (self : V → V → Option (V)) (n : Nat) (rF15l1 : List V → Int → Int → Int → Bool → Int → List UInt8 → List (List UInt8) → List V → Int → Bool → Int → List UInt8 → List (List UInt8) → List V → Int → Bool → Int → List UInt8 → List (List UInt8) → List V → Option (V)) (t6 : Int) (t8 : Int) (t26 : List V) (t27 : Int) (t28 : Int) (t70 : Bool) (b3_0 : Int) (b3_1 : Bool) (b3_2 : Int) (b3_3 : List UInt8) (b3_4 : List (List UInt8)) (b3_5 : List V) (b4_0 : Int) (b4_1 : Bool) (b4_2 : Int) (b4_3 : List UInt8) (b4_4 : List (List UInt8)) (b4_5 : List V) (b5_0 : Int) (b5_1 : Bool) (b5_2 : Int) (b5_3 : List UInt8) (b5_4 : List (List UInt8)) (b5_5 : List V) (b7_0 : Int) (b7_1 : Bool) (b7_2 : Int) (b7_3 : List UInt8) (b7_4 : List (List UInt8)) (b7_5 : List V) : Option (V) :=
  (bif t70 then
    (bif ((decide (0 ≤ t8) && decide (t8 ≤ (IntKind.wrap .i64 (t8 + 1)))) && decide ((IntKind.wrap .i64 (t8 + 1)) ≤ ((b5_4).length : Int))) then
    (bif ((decide (0 ≤ t8) && decide (t8 ≤ (IntKind.wrap .i64 (t8 + 1)))) && decide ((IntKind.wrap .i64 (t8 + 1)) ≤ ((b5_5).length : Int))) then
    rF15l1 t26 t27 (IntKind.wrap .i64 (t28 + 1)) b3_0 b3_1 b3_2 b3_3 b3_4 b3_5 b4_0 b4_1 b4_2 b4_3 b4_4 b4_5 b5_0 b5_1 b5_2 b5_3 ((b5_4).take (Int.toNat t8) ++ (b5_4).drop (Int.toNat (IntKind.wrap .i64 (t8 + 1)))) ((b5_5).take (Int.toNat t8) ++ (b5_5).drop (Int.toNat (IntKind.wrap .i64 (t8 + 1))))
    else none)
    else none)
  else
    (bif (b7_0 == 1) then
      rF15l1 t26 t27 (IntKind.wrap .i64 (t28 + 1)) b3_0 b3_1 b3_2 b3_3 b3_4 b3_5 b4_0 b4_1 b4_2 b4_3 b4_4 b4_5 b5_0 b5_1 b5_2 b5_3 b5_4 b5_5
    else
      (bif (decide (t8 ≥ 0)) then
        (bif inB t8 (b5_5).length then
        (match self ((b5_5).getD (Int.toNat t8) (Ty.dflt .value)) (V.mk b7_0 b7_1 b7_2 b7_3 b7_4 b7_5) with
        | some r2 =>
        (bif inB t8 (b5_5).length then
        rF15l1 t26 t27 (IntKind.wrap .i64 (t28 + 1)) b3_0 b3_1 b3_2 b3_3 b3_4 b3_5 b4_0 b4_1 b4_2 b4_3 b4_4 b4_5 b5_0 b5_1 b5_2 b5_3 b5_4 ((b5_5).set (Int.toNat t8) r2)
        else none)
        | none => none)
        else none)
      else
        (bif inB t6 (b3_4).length then
        (bif (decide (((b5_4).length + (([((b3_4).getD (Int.toNat t6) (Ty.dflt .str))] : List (List UInt8))).length) * 16 ≤ maxRoom) && decide ((b5_4).length + (([((b3_4).getD (Int.toNat t6) (Ty.dflt .str))] : List (List UInt8))).length ≤ maxRoom)) then
        (match self (V.mk 0 false 0 ([] : List UInt8) ([] : List (List UInt8)) ([] : List V)) (V.mk b7_0 b7_1 b7_2 b7_3 b7_4 b7_5) with
        | some r3 =>
        (bif (decide (((b5_5).length + (([r3] : List V)).length) * 88 ≤ maxRoom) && decide ((b5_5).length + (([r3] : List V)).length ≤ maxRoom)) then
        rF15l1 t26 t27 (IntKind.wrap .i64 (t28 + 1)) b3_0 b3_1 b3_2 b3_3 b3_4 b3_5 b4_0 b4_1 b4_2 b4_3 b4_4 b4_5 b5_0 b5_1 b5_2 b5_3 (b5_4 ++ ([((b3_4).getD (Int.toNat t6) (Ty.dflt .str))] : List (List UInt8))) (b5_5 ++ ([r3] : List V))
        else none)
        | none => none)
        else none)
        else none))))

def F15l1F (self : V → V → Option (V)) (n : Nat) (rF15l1 : List V → Int → Int → Int → Bool → Int → List UInt8 → List (List UInt8) → List V → Int → Bool → Int → List UInt8 → List (List UInt8) → List V → Int → Bool → Int → List UInt8 → List (List UInt8) → List V → Option (V)) (t26 : List V) (t27 : Int) (t28 : Int) (b3_0 : Int) (b3_1 : Bool) (b3_2 : Int) (b3_3 : List UInt8) (b3_4 : List (List UInt8)) (b3_5 : List V) (b4_0 : Int) (b4_1 : Bool) (b4_2 : Int) (b4_3 : List UInt8) (b4_4 : List (List UInt8)) (b4_5 : List V) (b5_0 : Int) (b5_1 : Bool) (b5_2 : Int) (b5_3 : List UInt8) (b5_4 : List (List UInt8)) (b5_5 : List V) : Option (V) :=
  (bif (decide (t28 < t27)) then
    (bif inB t28 (t26).length then
    (bif (decide (t28 ≥ ((b3_4).length : Int))) then
      some (V.mk b5_0 b5_1 b5_2 b5_3 b5_4 b5_5)
    else
      (bif inB t28 (b3_4).length then
      (match F29 n b5_4 ((b3_4).getD (Int.toNat t28) (Ty.dflt .str)) with
      | some r1 =>
      (bif (decide (r1 ≥ ((b5_5).length : Int))) then
        rF15l1 t26 t27 (IntKind.wrap .i64 (t28 + 1)) b3_0 b3_1 b3_2 b3_3 b3_4 b3_5 b4_0 b4_1 b4_2 b4_3 b4_4 b4_5 b5_0 b5_1 b5_2 b5_3 b5_4 b5_5
      else
        (bif (((t26).getD (Int.toNat t28) (Ty.dflt .value)).kind == 1) then
          F15j2 self n rF15l1 t28 r1 t26 t27 t28 (decide (r1 ≥ 0)) b3_0 b3_1 b3_2 b3_3 b3_4 b3_5 b4_0 b4_1 b4_2 b4_3 b4_4 b4_5 b5_0 b5_1 b5_2 b5_3 b5_4 b5_5 ((t26).getD (Int.toNat t28) (Ty.dflt .value)).kind ((t26).getD (Int.toNat t28) (Ty.dflt .value)).b ((t26).getD (Int.toNat t28) (Ty.dflt .value)).n ((t26).getD (Int.toNat t28) (Ty.dflt .value)).s ((t26).getD (Int.toNat t28) (Ty.dflt .value)).names ((t26).getD (Int.toNat t28) (Ty.dflt .value)).kids
        else
          F15j2 self n rF15l1 t28 r1 t26 t27 t28 false b3_0 b3_1 b3_2 b3_3 b3_4 b3_5 b4_0 b4_1 b4_2 b4_3 b4_4 b4_5 b5_0 b5_1 b5_2 b5_3 b5_4 b5_5 ((t26).getD (Int.toNat t28) (Ty.dflt .value)).kind ((t26).getD (Int.toNat t28) (Ty.dflt .value)).b ((t26).getD (Int.toNat t28) (Ty.dflt .value)).n ((t26).getD (Int.toNat t28) (Ty.dflt .value)).s ((t26).getD (Int.toNat t28) (Ty.dflt .value)).names ((t26).getD (Int.toNat t28) (Ty.dflt .value)).kids))
      | none => none)
      else none))
    else none)
  else
    some (V.mk b5_0 b5_1 b5_2 b5_3 b5_4 b5_5))
def F15l1 (self : V → V → Option (V)) (n : Nat) : Nat → List V → Int → Int → Int → Bool → Int → List UInt8 → List (List UInt8) → List V → Int → Bool → Int → List UInt8 → List (List UInt8) → List V → Int → Bool → Int → List UInt8 → List (List UInt8) → List V → Option (V)
  | 0, _, _, _, _, _, _, _, _, _, _, _, _, _, _, _, _, _, _, _, _, _ => none
  | m + 1, t26, t27, t28, b3_0, b3_1, b3_2, b3_3, b3_4, b3_5, b4_0, b4_1, b4_2, b4_3, b4_4, b4_5, b5_0, b5_1, b5_2, b5_3, b5_4, b5_5 => F15l1F self n (F15l1 self n m) t26 t27 t28 b3_0 b3_1 b3_2 b3_3 b3_4 b3_5 b4_0 b4_1 b4_2 b4_3 b4_4 b4_5 b5_0 b5_1 b5_2 b5_3 b5_4 b5_5

def F15j0 (self : V → V → Option (V)) (n : Nat) (b3_0 : Int) (b3_1 : Bool) (b3_2 : Int) (b3_3 : List UInt8) (b3_4 : List (List UInt8)) (b3_5 : List V) (b4_0 : Int) (b4_1 : Bool) (b4_2 : Int) (b4_3 : List UInt8) (b4_4 : List (List UInt8)) (b4_5 : List V) (b5_0 : Int) (b5_1 : Bool) (b5_2 : Int) (b5_3 : List UInt8) (b5_4 : List (List UInt8)) (b5_5 : List V) : Option (V) :=
  F15l1 self n n b3_5 ((b3_5).length : Int) 0 b3_0 b3_1 b3_2 b3_3 b3_4 b3_5 b4_0 b4_1 b4_2 b4_3 b4_4 b4_5 b5_0 b5_1 b5_2 b5_3 b5_4 b5_5

def F15B (self : V → V → Option (V)) (n : Nat) (a0 : V) (a1 : V) : Option (V) :=
  (bif (a1.kind != 6) then
    some (V.mk a1.kind a1.b a1.n a1.s a1.names a1.kids)
  else
    (bif (a0.kind == 6) then
      (bif (decide ((a0.names).length * 16 ≤ maxRoom) && decide ((a0.names).length ≤ maxRoom)) then
      (bif (decide ((a0.kids).length * 88 ≤ maxRoom) && decide ((a0.kids).length ≤ maxRoom)) then
      F15j0 self n a1.kind a1.b a1.n a1.s a1.names a1.kids 0 false 0 ([] : List UInt8) ([] : List (List UInt8)) ([] : List V) 6 false 0 ([] : List UInt8) a0.names a0.kids
      else none)
      else none)
    else
      F15j0 self n a1.kind a1.b a1.n a1.s a1.names a1.kids 0 false 0 ([] : List UInt8) ([] : List (List UInt8)) ([] : List V) 6 false 0 ([] : List UInt8) ([] : List (List UInt8)) ([] : List V)))

def F15 : Nat → V → V → Option (V)
  | 0, _, _ => none
  | n + 1, a0, a1 => F15B (F15 n) n a0 a1

noncomputable def c15 : Code := Try.f15.body.getD .skip

noncomputable def G15 (self : V → V → Option (V)) (n : Nat) : Ctx (Res [.value]) := ent 15 [.value, .value] [.value] (fun x => self x.1 x.2) (ent 29 [.slice .str, .str] [.int .i64] (fun x => F29 n x.1 x.2) (noFns))

noncomputable def P15 (self : V → V → Option (V)) (n : Nat) : Pl (Res [.value]) :=
  (.two .leaf (.two .leaf (.two .leaf (.join [.ptr (.tmp 3) 3 0, .ptr (.tmp 4) 4 0, .ptr (.tmp 5) 5 0, .val (.cell 3 0) (.int .i64), .val (.cell 3 1) .bool, .val (.cell 3 2) (.int .i64), .val (.cell 3 3) .str, .val (.cell 3 4) (.slice .str), .val (.cell 3 5) (.slice .value), .val (.cell 4 0) (.int .i64), .val (.cell 4 1) .bool, .val (.cell 4 2) (.int .i64), .val (.cell 4 3) .str, .vec (.cell 4 4) 10404 9 .str, .vec (.cell 4 5) 10405 30 .value, .val (.cell 5 0) (.int .i64), .val (.cell 5 1) .bool, .val (.cell 5 2) (.int .i64), .val (.cell 5 3) .str, .vec (.cell 5 4) 19 9 .str, .vec (.cell 5 5) 22 30 .value, .box 3, .box 4, .box 5] (fun x => F15j0 self n x.2.2.2.1 x.2.2.2.2.1 x.2.2.2.2.2.1 x.2.2.2.2.2.2.1 x.2.2.2.2.2.2.2.1 x.2.2.2.2.2.2.2.2.1 x.2.2.2.2.2.2.2.2.2.1 x.2.2.2.2.2.2.2.2.2.2.1 x.2.2.2.2.2.2.2.2.2.2.2.1 x.2.2.2.2.2.2.2.2.2.2.2.2.1 x.2.2.2.2.2.2.2.2.2.2.2.2.2.1 x.2.2.2.2.2.2.2.2.2.2.2.2.2.2.1 x.2.2.2.2.2.2.2.2.2.2.2.2.2.2.2.1 x.2.2.2.2.2.2.2.2.2.2.2.2.2.2.2.2.1 x.2.2.2.2.2.2.2.2.2.2.2.2.2.2.2.2.2.1 x.2.2.2.2.2.2.2.2.2.2.2.2.2.2.2.2.2.2.1 x.2.2.2.2.2.2.2.2.2.2.2.2.2.2.2.2.2.2.2.1 x.2.2.2.2.2.2.2.2.2.2.2.2.2.2.2.2.2.2.2.2.1) .leaf (.two (.two .leaf (.one (.loop [.ptr (.tmp 3) 3 0, .ptr (.tmp 4) 4 0, .ptr (.tmp 5) 5 0, .val (.tmp 26) (.slice .value), .val (.tmp 27) (.int .i64), .val (.tmp 28) (.int .i64), .val (.cell 3 0) (.int .i64), .val (.cell 3 1) .bool, .val (.cell 3 2) (.int .i64), .val (.cell 3 3) .str, .val (.cell 3 4) (.slice .str), .val (.cell 3 5) (.slice .value), .val (.cell 4 0) (.int .i64), .val (.cell 4 1) .bool, .val (.cell 4 2) (.int .i64), .val (.cell 4 3) .str, .vec (.cell 4 4) 10404 9 .str, .vec (.cell 4 5) 10405 30 .value, .val (.cell 5 0) (.int .i64), .val (.cell 5 1) .bool, .val (.cell 5 2) (.int .i64), .val (.cell 5 3) .str, .vec (.cell 5 4) 19 9 .str, .vec (.cell 5 5) 22 30 .value, .box 3, .box 4, .box 5] n (fun m x => F15l1 self n m x.2.2.2.1 x.2.2.2.2.1 x.2.2.2.2.2.1 x.2.2.2.2.2.2.1 x.2.2.2.2.2.2.2.1 x.2.2.2.2.2.2.2.2.1 x.2.2.2.2.2.2.2.2.2.1 x.2.2.2.2.2.2.2.2.2.2.1 x.2.2.2.2.2.2.2.2.2.2.2.1 x.2.2.2.2.2.2.2.2.2.2.2.2.1 x.2.2.2.2.2.2.2.2.2.2.2.2.2.1 x.2.2.2.2.2.2.2.2.2.2.2.2.2.2.1 x.2.2.2.2.2.2.2.2.2.2.2.2.2.2.2.1 x.2.2.2.2.2.2.2.2.2.2.2.2.2.2.2.2.1 x.2.2.2.2.2.2.2.2.2.2.2.2.2.2.2.2.2.1 x.2.2.2.2.2.2.2.2.2.2.2.2.2.2.2.2.2.2.1 x.2.2.2.2.2.2.2.2.2.2.2.2.2.2.2.2.2.2.2.1 x.2.2.2.2.2.2.2.2.2.2.2.2.2.2.2.2.2.2.2.2.1 x.2.2.2.2.2.2.2.2.2.2.2.2.2.2.2.2.2.2.2.2.2.1 x.2.2.2.2.2.2.2.2.2.2.2.2.2.2.2.2.2.2.2.2.2.2.1 x.2.2.2.2.2.2.2.2.2.2.2.2.2.2.2.2.2.2.2.2.2.2.2.1) (fun r => let rF15l1 : List V → Int → Int → Int → Bool → Int → List UInt8 → List (List UInt8) → List V → Int → Bool → Int → List UInt8 → List (List UInt8) → List V → Int → Bool → Int → List UInt8 → List (List UInt8) → List V → Option (V) := (fun y0 y1 y2 y3 y4 y5 y6 y7 y8 y9 y10 y11 y12 y13 y14 y15 y16 y17 y18 y19 y20 => r ((), (), (), y0, y1, y2, y3, y4, y5, y6, y7, y8, y9, y10, y11, y12, y13, y14, y15, y16, y17, y18, y19, y20, (), (), (), ())); (.two .leaf (.two .leaf (.two (.one (.two .leaf (.two .leaf (.two .leaf (.one (.two .leaf (.two .leaf (.join [.ptr (.tmp 3) 3 0, .ptr (.tmp 4) 4 0, .ptr (.tmp 5) 5 0, .val (.tmp 6) (.int .i64), .ptr (.tmp 7) 7 0, .val (.tmp 8) (.int .i64), .val (.tmp 26) (.slice .value), .val (.tmp 27) (.int .i64), .val (.tmp 28) (.int .i64), .val (.tmp 70) .bool, .val (.cell 3 0) (.int .i64), .val (.cell 3 1) .bool, .val (.cell 3 2) (.int .i64), .val (.cell 3 3) .str, .val (.cell 3 4) (.slice .str), .val (.cell 3 5) (.slice .value), .val (.cell 4 0) (.int .i64), .val (.cell 4 1) .bool, .val (.cell 4 2) (.int .i64), .val (.cell 4 3) .str, .vec (.cell 4 4) 10404 9 .str, .vec (.cell 4 5) 10405 30 .value, .val (.cell 5 0) (.int .i64), .val (.cell 5 1) .bool, .val (.cell 5 2) (.int .i64), .val (.cell 5 3) .str, .vec (.cell 5 4) 19 9 .str, .vec (.cell 5 5) 22 30 .value, .val (.cell 7 0) (.int .i64), .val (.cell 7 1) .bool, .val (.cell 7 2) (.int .i64), .val (.cell 7 3) .str, .val (.cell 7 4) (.slice .str), .val (.cell 7 5) (.slice .value), .box 3, .box 4, .box 5, .box 7] (fun x => F15j2 self n rF15l1 x.2.2.2.1 x.2.2.2.2.2.1 x.2.2.2.2.2.2.1 x.2.2.2.2.2.2.2.1 x.2.2.2.2.2.2.2.2.1 x.2.2.2.2.2.2.2.2.2.1 x.2.2.2.2.2.2.2.2.2.2.1 x.2.2.2.2.2.2.2.2.2.2.2.1 x.2.2.2.2.2.2.2.2.2.2.2.2.1 x.2.2.2.2.2.2.2.2.2.2.2.2.2.1 x.2.2.2.2.2.2.2.2.2.2.2.2.2.2.1 x.2.2.2.2.2.2.2.2.2.2.2.2.2.2.2.1 x.2.2.2.2.2.2.2.2.2.2.2.2.2.2.2.2.1 x.2.2.2.2.2.2.2.2.2.2.2.2.2.2.2.2.2.1 x.2.2.2.2.2.2.2.2.2.2.2.2.2.2.2.2.2.2.1 x.2.2.2.2.2.2.2.2.2.2.2.2.2.2.2.2.2.2.2.1 x.2.2.2.2.2.2.2.2.2.2.2.2.2.2.2.2.2.2.2.2.1 x.2.2.2.2.2.2.2.2.2.2.2.2.2.2.2.2.2.2.2.2.2.1 x.2.2.2.2.2.2.2.2.2.2.2.2.2.2.2.2.2.2.2.2.2.2.1 x.2.2.2.2.2.2.2.2.2.2.2.2.2.2.2.2.2.2.2.2.2.2.2.1 x.2.2.2.2.2.2.2.2.2.2.2.2.2.2.2.2.2.2.2.2.2.2.2.2.1 x.2.2.2.2.2.2.2.2.2.2.2.2.2.2.2.2.2.2.2.2.2.2.2.2.2.1 x.2.2.2.2.2.2.2.2.2.2.2.2.2.2.2.2.2.2.2.2.2.2.2.2.2.2.1 x.2.2.2.2.2.2.2.2.2.2.2.2.2.2.2.2.2.2.2.2.2.2.2.2.2.2.2.1 x.2.2.2.2.2.2.2.2.2.2.2.2.2.2.2.2.2.2.2.2.2.2.2.2.2.2.2.2.1 x.2.2.2.2.2.2.2.2.2.2.2.2.2.2.2.2.2.2.2.2.2.2.2.2.2.2.2.2.2.1 x.2.2.2.2.2.2.2.2.2.2.2.2.2.2.2.2.2.2.2.2.2.2.2.2.2.2.2.2.2.2.1 x.2.2.2.2.2.2.2.2.2.2.2.2.2.2.2.2.2.2.2.2.2.2.2.2.2.2.2.2.2.2.2.1 x.2.2.2.2.2.2.2.2.2.2.2.2.2.2.2.2.2.2.2.2.2.2.2.2.2.2.2.2.2.2.2.2.1 x.2.2.2.2.2.2.2.2.2.2.2.2.2.2.2.2.2.2.2.2.2.2.2.2.2.2.2.2.2.2.2.2.2.1) .leaf .leaf)))))))) .leaf))))))) .leaf)))))

theorem K15 (self : V → V → Option (V)) (n : Nat) : PlOK (G15 self n) lay 112 (P15 self n) c15 (fnK lay [.cell 4 30] [.value]) :=
  ⟨trivial, ⟨trivial, ⟨trivial, ⟨by kernel_rfl, fun x => by kernel_rfl, trivial, ⟨⟨trivial, ⟨by kernel_rfl, fun x => by kernel_rfl, fun m => ⟨fun x => by kernel_rfl, ⟨trivial, ⟨trivial, ⟨⟨trivial, ⟨trivial, ⟨trivial, ⟨trivial, ⟨trivial, ⟨by kernel_rfl, fun x => by kernel_rfl, trivial, trivial⟩⟩⟩⟩⟩⟩, trivial⟩⟩⟩⟩⟩⟩, trivial⟩⟩⟩⟩⟩

theorem E15 (self : V → V → Option (V)) (n : Nat) (a0 : V) (a1 : V) : F15B self n a0 a1 = ev (G15 self n) lay 112 c15 (P15 self n) (args0 0 (argDs [.value, .value] (a0, a1))) (fnK lay [.cell 4 30] [.value]) := by kernel_rfl

theorem TB15 (self : V → V → Option (V)) (hs : Told Try.prog 15 [.value, .value] [.value] (fun x => self x.1 x.2)) (n : Nat) : Told Try.prog 15 [.value, .value] [.value] (fun x => F15B self n x.1 x.2) := by
  rintro ⟨a0, a1⟩ r h
  exact fn_sound lay_ok mixed (ts := [.cell 4 30]) (by kernel_rfl : Try.prog.funcs[15]? = some Try.f15) (by kernel_rfl : Try.f15.body = some c15) (by kernel_rfl) (by kernel_rfl) (by kernel_rfl) (ent_ok hs (ent_ok (T29 n) (noFns_ok))) (K15 self n) ((E15 self n a0 a1).symm.trans h)

theorem T15 : ∀ n : Nat, Told Try.prog 15 [.value, .value] [.value] (fun x => F15 n x.1 x.2)
  | 0 => fun _ _ h => by cases h
  | n + 1 => TB15 (F15 n) (T15 n) n

/-! ### orthoepy/orthoepylaw26.awake -/

def F10 (n : Nat) : Option (Bool) :=
  (match F15 n (V.mk 6 false 0 ([] : List UInt8) ([([97] : List UInt8)] : List (List UInt8)) ([(V.mk 6 false 0 ([] : List UInt8) ([([98] : List UInt8)] : List (List UInt8)) ([(V.mk 3 false 1 ([] : List UInt8) ([] : List (List UInt8)) ([] : List V))] : List V))] : List V)) (V.mk 6 false 0 ([] : List UInt8) ([([97] : List UInt8)] : List (List UInt8)) ([(V.mk 6 false 0 ([] : List UInt8) ([([98] : List UInt8), ([99] : List UInt8)] : List (List UInt8)) ([(V.mk 1 false 0 ([] : List UInt8) ([] : List (List UInt8)) ([] : List V)), (V.mk 3 false 2 ([] : List UInt8) ([] : List (List UInt8)) ([] : List V))] : List V))] : List V)) with
  | some r1 =>
  (bif (((r1.kids).length : Int) != 1) then
    some false
  else
    (bif inB 0 (r1.kids).length then
    (bif (((((r1.kids).getD (Int.toNat 0) (Ty.dflt .value)).kids).length : Int) != 1) then
      some false
    else
      (bif inB 0 (r1.kids).length then
      (bif (((((r1.kids).getD (Int.toNat 0) (Ty.dflt .value)).names).length : Int) != 1) then
        some false
      else
        (bif inB 0 (r1.kids).length then
        (bif inB 0 (((r1.kids).getD (Int.toNat 0) (Ty.dflt .value)).names).length then
        (bif (((((r1.kids).getD (Int.toNat 0) (Ty.dflt .value)).names).getD (Int.toNat 0) (Ty.dflt .str)) == ([99] : List UInt8)) then
          (bif inB 0 (r1.kids).length then
          (bif inB 0 (((r1.kids).getD (Int.toNat 0) (Ty.dflt .value)).kids).length then
          (bif (((((r1.kids).getD (Int.toNat 0) (Ty.dflt .value)).kids).getD (Int.toNat 0) (Ty.dflt .value)).n == 2) then
            (match F15 n (V.mk 6 false 0 ([] : List UInt8) ([([97] : List UInt8)] : List (List UInt8)) ([(V.mk 6 false 0 ([] : List UInt8) ([([98] : List UInt8)] : List (List UInt8)) ([(V.mk 3 false 1 ([] : List UInt8) ([] : List (List UInt8)) ([] : List V))] : List V))] : List V)) (V.mk 3 false 1 ([] : List UInt8) ([] : List (List UInt8)) ([] : List V)) with
            | some r2 =>
            (bif (r2.n == 1) then
              (match F15 n (V.mk 3 false 1 ([] : List UInt8) ([] : List (List UInt8)) ([] : List V)) (V.mk 6 false 0 ([] : List UInt8) ([([97] : List UInt8)] : List (List UInt8)) ([(V.mk 6 false 0 ([] : List UInt8) ([([98] : List UInt8), ([99] : List UInt8)] : List (List UInt8)) ([(V.mk 1 false 0 ([] : List UInt8) ([] : List (List UInt8)) ([] : List V)), (V.mk 3 false 2 ([] : List UInt8) ([] : List (List UInt8)) ([] : List V))] : List V))] : List V)) with
              | some r3 =>
              some (r3.kind == 6)
              | none => none)
            else
              some false)
            | none => none)
          else
            some false)
          else none)
          else none)
        else
          some false)
        else none)
        else none))
      else none))
    else none))
  | none => none)

noncomputable def c10 : Code := Try.f10.body.getD .skip

noncomputable def G10 (n : Nat) : Ctx (Res [.bool]) := ent 15 [.value, .value] [.value] (fun x => F15 n x.1 x.2) (noFns)

noncomputable def P10 (n : Nat) : Pl (Res [.bool]) :=
  .leaf

theorem K10 (n : Nat) : PlOK (G10 n) lay 87 (P10 n) c10 (fnK lay [.tmp 0] [.bool]) :=
  trivial

theorem E10 (n : Nat) : F10 n = ev (G10 n) lay 87 c10 (P10 n) (args0 0 (argDs [] ())) (fnK lay [.tmp 0] [.bool]) := by kernel_rfl

theorem T10 (n : Nat) : Told Try.prog 10 [] [.bool] (fun x => F10 n ) := by
  rintro _ r h
  exact fn_sound lay_ok mixed (ts := [.tmp 0]) (by kernel_rfl : Try.prog.funcs[10]? = some Try.f10) (by kernel_rfl : Try.f10.body = some c10) (by kernel_rfl) (by kernel_rfl) (by kernel_rfl) (ent_ok (T15 n) (noFns_ok)) (K10 n) ((E10 n).symm.trans h)

/-! ### orthoepy/orthoepylaw26.PatchEmpty -/

def F5j0 (n : Nat) (b5_0 : Int) (b5_1 : Bool) (b5_2 : Int) (b5_3 : List UInt8) (b5_4 : List (List UInt8)) (b5_5 : List V) (b6_0 : Int) (b6_1 : Bool) (b6_2 : Int) (b6_3 : List UInt8) (b6_4 : List (List UInt8)) (b6_5 : List V) (b7_0 : Int) (b7_1 : Bool) (b7_2 : Int) (b7_3 : List UInt8) (b7_4 : List (List UInt8)) (b7_5 : List V) (b8_0 : Int) (b8_1 : Bool) (b8_2 : Int) (b8_3 : List UInt8) (b8_4 : List (List UInt8)) (b8_5 : List V) : Option (Bool) :=
  (match F15 n (V.mk b5_0 b5_1 b5_2 b5_3 b5_4 b5_5) (V.mk b7_0 b7_1 b7_2 b7_3 b7_4 b7_5) with
  | some r5 =>
  (match F14 n r5 (V.mk b8_0 b8_1 b8_2 b8_3 b8_4 b8_5) with
  | some r6 =>
  (bif r6 then
    (bif (b6_0 == 6) then
      (match F10 n  with
      | some r7 =>
      some r7
      | none => none)
    else
      (match F15 n (V.mk b5_0 b5_1 b5_2 b5_3 b5_4 b5_5) (V.mk b6_0 b6_1 b6_2 b6_3 b6_4 b6_5) with
      | some r8 =>
      (match F14 n r8 (V.mk b6_0 b6_1 b6_2 b6_3 b6_4 b6_5) with
      | some r9 =>
      (bif r9 then
        (match F10 n  with
        | some r10 =>
        some r10
        | none => none)
      else
        some false)
      | none => none)
      | none => none))
  else
    some false)
  | none => none)
  | none => none)

def F5 (n : Nat) (a0 : List Int) (a1 : List Int) : Option (Bool) :=
  (bif (decide (((a0).length : Int) > 60)) then
    (match F10 n  with
    | some r1 =>
    some r1
    | none => none)
  else
    (bif (decide (((a1).length : Int) > 60)) then
      (match F10 n  with
      | some r2 =>
      some r2
      | none => none)
    else
      (match F17 n a0 with
      | some r3 =>
      (match F17 n a1 with
      | some r4 =>
      (bif (r3.kind != 6) then
        F5j0 n r3.kind r3.b r3.n r3.s r3.names r3.kids r4.kind r4.b r4.n r4.s r4.names r4.kids 6 false 0 ([] : List UInt8) ([] : List (List UInt8)) ([] : List V) 6 false 0 ([] : List UInt8) ([] : List (List UInt8)) ([] : List V)
      else
        F5j0 n r3.kind r3.b r3.n r3.s r3.names r3.kids r4.kind r4.b r4.n r4.s r4.names r4.kids 6 false 0 ([] : List UInt8) ([] : List (List UInt8)) ([] : List V) r3.kind r3.b r3.n r3.s r3.names r3.kids)
      | none => none)
      | none => none)))

noncomputable def c5 : Code := Try.f5.body.getD .skip

noncomputable def G5 (n : Nat) : Ctx (Res [.bool]) := ent 10 [] [.bool] (fun x => F10 n ) (ent 14 [.value, .value] [.bool] (fun x => F14 n x.1 x.2) (ent 15 [.value, .value] [.value] (fun x => F15 n x.1 x.2) (ent 17 [.slice (.int .i64)] [.value] (fun x => F17 n x) (noFns))))

noncomputable def P5 (n : Nat) : Pl (Res [.bool]) :=
  (.two .leaf (.two .leaf (.two .leaf (.two .leaf (.two .leaf (.join [.ptr (.tmp 5) 5 0, .ptr (.tmp 6) 6 0, .ptr (.tmp 7) 7 0, .ptr (.tmp 8) 8 0, .val (.cell 5 0) (.int .i64), .val (.cell 5 1) .bool, .val (.cell 5 2) (.int .i64), .val (.cell 5 3) .str, .val (.cell 5 4) (.slice .str), .val (.cell 5 5) (.slice .value), .val (.cell 6 0) (.int .i64), .val (.cell 6 1) .bool, .val (.cell 6 2) (.int .i64), .val (.cell 6 3) .str, .val (.cell 6 4) (.slice .str), .val (.cell 6 5) (.slice .value), .val (.cell 7 0) (.int .i64), .val (.cell 7 1) .bool, .val (.cell 7 2) (.int .i64), .val (.cell 7 3) .str, .vec (.cell 7 4) 10704 9 .str, .vec (.cell 7 5) 10705 30 .value, .val (.cell 8 0) (.int .i64), .val (.cell 8 1) .bool, .val (.cell 8 2) (.int .i64), .val (.cell 8 3) .str, .val (.cell 8 4) (.slice .str), .val (.cell 8 5) (.slice .value), .box 5, .box 6, .box 7, .box 8] (fun x => F5j0 n x.2.2.2.2.1 x.2.2.2.2.2.1 x.2.2.2.2.2.2.1 x.2.2.2.2.2.2.2.1 x.2.2.2.2.2.2.2.2.1 x.2.2.2.2.2.2.2.2.2.1 x.2.2.2.2.2.2.2.2.2.2.1 x.2.2.2.2.2.2.2.2.2.2.2.1 x.2.2.2.2.2.2.2.2.2.2.2.2.1 x.2.2.2.2.2.2.2.2.2.2.2.2.2.1 x.2.2.2.2.2.2.2.2.2.2.2.2.2.2.1 x.2.2.2.2.2.2.2.2.2.2.2.2.2.2.2.1 x.2.2.2.2.2.2.2.2.2.2.2.2.2.2.2.2.1 x.2.2.2.2.2.2.2.2.2.2.2.2.2.2.2.2.2.1 x.2.2.2.2.2.2.2.2.2.2.2.2.2.2.2.2.2.2.1 x.2.2.2.2.2.2.2.2.2.2.2.2.2.2.2.2.2.2.2.1 x.2.2.2.2.2.2.2.2.2.2.2.2.2.2.2.2.2.2.2.2.1 x.2.2.2.2.2.2.2.2.2.2.2.2.2.2.2.2.2.2.2.2.2.1 x.2.2.2.2.2.2.2.2.2.2.2.2.2.2.2.2.2.2.2.2.2.2.1 x.2.2.2.2.2.2.2.2.2.2.2.2.2.2.2.2.2.2.2.2.2.2.2.1 x.2.2.2.2.2.2.2.2.2.2.2.2.2.2.2.2.2.2.2.2.2.2.2.2.1 x.2.2.2.2.2.2.2.2.2.2.2.2.2.2.2.2.2.2.2.2.2.2.2.2.2.1 x.2.2.2.2.2.2.2.2.2.2.2.2.2.2.2.2.2.2.2.2.2.2.2.2.2.2.1 x.2.2.2.2.2.2.2.2.2.2.2.2.2.2.2.2.2.2.2.2.2.2.2.2.2.2.2.1) .leaf .leaf))))))

theorem K5 (n : Nat) : PlOK (G5 n) lay 48 (P5 n) c5 (fnK lay [.tmp 4] [.bool]) :=
  ⟨trivial, ⟨trivial, ⟨trivial, ⟨trivial, ⟨trivial, ⟨by kernel_rfl, fun x => by kernel_rfl, trivial, trivial⟩⟩⟩⟩⟩⟩

theorem E5 (n : Nat) (a0 : List Int) (a1 : List Int) : F5 n a0 a1 = ev (G5 n) lay 48 c5 (P5 n) (args0 0 (argDs [.slice (.int .i64), .slice (.int .i64)] (a0, a1))) (fnK lay [.tmp 4] [.bool]) := by kernel_rfl

theorem T5 (n : Nat) : Told Try.prog 5 [.slice (.int .i64), .slice (.int .i64)] [.bool] (fun x => F5 n x.1 x.2) := by
  rintro ⟨a0, a1⟩ r h
  exact fn_sound lay_ok mixed (ts := [.tmp 4]) (by kernel_rfl : Try.prog.funcs[5]? = some Try.f5) (by kernel_rfl : Try.f5.body = some c5) (by kernel_rfl) (by kernel_rfl) (by kernel_rfl) (ent_ok (T10 n) (ent_ok (T14 n) (ent_ok (T15 n) (ent_ok (T17 n) (noFns_ok))))) (K5 n) ((E5 n a0 a1).symm.trans h)

/-! ### orthoepy/orthoepylaw26.PatchBare -/

def F7 (n : Nat) (a0 : List Int) : Option (Bool) :=
  (bif (decide (((a0).length : Int) > 60)) then
    (match F10 n  with
    | some r1 =>
    some r1
    | none => none)
  else
    (match F17 n a0 with
    | some r2 =>
    (match F15 n (V.mk 0 false 0 ([] : List UInt8) ([] : List (List UInt8)) ([] : List V)) (V.mk r2.kind r2.b r2.n r2.s r2.names r2.kids) with
    | some r3 =>
    (match F19 n (V.mk r2.kind r2.b r2.n r2.s r2.names r2.kids) with
    | some r4 =>
    (match F14 n r3 r4 with
    | some r5 =>
    (bif r5 then
      (match F10 n  with
      | some r6 =>
      some r6
      | none => none)
    else
      some false)
    | none => none)
    | none => none)
    | none => none)
    | none => none))

noncomputable def c7 : Code := Try.f7.body.getD .skip

noncomputable def G7 (n : Nat) : Ctx (Res [.bool]) := ent 10 [] [.bool] (fun x => F10 n ) (ent 14 [.value, .value] [.bool] (fun x => F14 n x.1 x.2) (ent 15 [.value, .value] [.value] (fun x => F15 n x.1 x.2) (ent 17 [.slice (.int .i64)] [.value] (fun x => F17 n x) (ent 19 [.value] [.value] (fun x => F19 n x) (noFns)))))

noncomputable def P7 (n : Nat) : Pl (Res [.bool]) :=
  .leaf

theorem K7 (n : Nat) : PlOK (G7 n) lay 19 (P7 n) c7 (fnK lay [.tmp 2] [.bool]) :=
  trivial

theorem E7 (n : Nat) (a0 : List Int) : F7 n a0 = ev (G7 n) lay 19 c7 (P7 n) (args0 0 (argDs [.slice (.int .i64)] (a0))) (fnK lay [.tmp 2] [.bool]) := by kernel_rfl

theorem T7 (n : Nat) : Told Try.prog 7 [.slice (.int .i64)] [.bool] (fun x => F7 n x) := by
  rintro a0 r h
  exact fn_sound lay_ok mixed (ts := [.tmp 2]) (by kernel_rfl : Try.prog.funcs[7]? = some Try.f7) (by kernel_rfl : Try.f7.body = some c7) (by kernel_rfl) (by kernel_rfl) (by kernel_rfl) (ent_ok (T10 n) (ent_ok (T14 n) (ent_ok (T15 n) (ent_ok (T17 n) (ent_ok (T19 n) (noFns_ok)))))) (K7 n) ((E7 n a0).symm.trans h)

/-! ### orthoepy/orthoepylaw26.PatchMembers -/

def F6j4 (n : Nat) (rF6l1 : Int → Int → Bool → Int → List UInt8 → List (List UInt8) → List V → Int → Bool → Int → List UInt8 → List (List UInt8) → List V → Int → Bool → Int → List UInt8 → List (List UInt8) → List V → Option (Bool)) (t8 : Int) (t38 : Int) (t39 : Bool) (b5_0 : Int) (b5_1 : Bool) (b5_2 : Int) (b5_3 : List UInt8) (b5_4 : List (List UInt8)) (b5_5 : List V) (b6_0 : Int) (b6_1 : Bool) (b6_2 : Int) (b6_3 : List UInt8) (b6_4 : List (List UInt8)) (b6_5 : List V) (b7_0 : Int) (b7_1 : Bool) (b7_2 : Int) (b7_3 : List UInt8) (b7_4 : List (List UInt8)) (b7_5 : List V) (b9_0 : Int) (b9_1 : Bool) (b9_2 : Int) (b9_3 : List UInt8) (b9_4 : List (List UInt8)) (b9_5 : List V) : Option (Bool) :=
  (bif inB t8 (b5_4).length then
  (bif (decide (((b7_4).length + (([((b5_4).getD (Int.toNat t8) (Ty.dflt .str))] : List (List UInt8))).length) * 16 ≤ maxRoom) && decide ((b7_4).length + (([((b5_4).getD (Int.toNat t8) (Ty.dflt .str))] : List (List UInt8))).length ≤ maxRoom)) then
  (bif (decide (((b7_5).length + (([(V.mk b9_0 b9_1 b9_2 b9_3 b9_4 b9_5)] : List V)).length) * 88 ≤ maxRoom) && decide ((b7_5).length + (([(V.mk b9_0 b9_1 b9_2 b9_3 b9_4 b9_5)] : List V)).length ≤ maxRoom)) then
  rF6l1 (IntKind.wrap .i64 (t8 + 1)) b5_0 b5_1 b5_2 b5_3 b5_4 b5_5 b6_0 b6_1 b6_2 b6_3 b6_4 b6_5 b7_0 b7_1 b7_2 b7_3 (b7_4 ++ ([((b5_4).getD (Int.toNat t8) (Ty.dflt .str))] : List (List UInt8))) (b7_5 ++ ([(V.mk b9_0 b9_1 b9_2 b9_3 b9_4 b9_5)] : List V))
  else none)
  else none)
  else none)

def F6j3 (n : Nat) (rF6l1 : Int → Int → Bool → Int → List UInt8 → List (List UInt8) → List V → Int → Bool → Int → List UInt8 → List (List UInt8) → List V → Int → Bool → Int → List UInt8 → List (List UInt8) → List V → Option (Bool)) (t8 : Int) (t10 : Int) (t38 : Int) (t39 : Bool) (b5_0 : Int) (b5_1 : Bool) (b5_2 : Int) (b5_3 : List UInt8) (b5_4 : List (List UInt8)) (b5_5 : List V) (b6_0 : Int) (b6_1 : Bool) (b6_2 : Int) (b6_3 : List UInt8) (b6_4 : List (List UInt8)) (b6_5 : List V) (b7_0 : Int) (b7_1 : Bool) (b7_2 : Int) (b7_3 : List UInt8) (b7_4 : List (List UInt8)) (b7_5 : List V) (b9_0 : Int) (b9_1 : Bool) (b9_2 : Int) (b9_3 : List UInt8) (b9_4 : List (List UInt8)) (b9_5 : List V) : Option (Bool) :=
  (bif (decide (t10 ≥ 0)) then
    (bif inB t10 (b6_5).length then
    (match F15 n (V.mk b9_0 b9_1 b9_2 b9_3 b9_4 b9_5) ((b6_5).getD (Int.toNat t10) (Ty.dflt .value)) with
    | some r7 =>
    F6j4 n rF6l1 t8 t38 t39 b5_0 b5_1 b5_2 b5_3 b5_4 b5_5 b6_0 b6_1 b6_2 b6_3 b6_4 b6_5 b7_0 b7_1 b7_2 b7_3 b7_4 b7_5 r7.kind r7.b r7.n r7.s r7.names r7.kids
    | none => none)
    else none)
  else
    F6j4 n rF6l1 t8 t38 t39 b5_0 b5_1 b5_2 b5_3 b5_4 b5_5 b6_0 b6_1 b6_2 b6_3 b6_4 b6_5 b7_0 b7_1 b7_2 b7_3 b7_4 b7_5 b9_0 b9_1 b9_2 b9_3 b9_4 b9_5)

def F6l2F (n : Nat) (rF6l2 : Int → Int → Bool → Int → List UInt8 → List (List UInt8) → List V → Int → Bool → Int → List UInt8 → List (List UInt8) → List V → Int → Bool → Int → List UInt8 → List (List UInt8) → List V → Option (Bool)) (t11 : Int) (b5_0 : Int) (b5_1 : Bool) (b5_2 : Int) (b5_3 : List UInt8) (b5_4 : List (List UInt8)) (b5_5 : List V) (b6_0 : Int) (b6_1 : Bool) (b6_2 : Int) (b6_3 : List UInt8) (b6_4 : List (List UInt8)) (b6_5 : List V) (b7_0 : Int) (b7_1 : Bool) (b7_2 : Int) (b7_3 : List UInt8) (b7_4 : List (List UInt8)) (b7_5 : List V) : Option (Bool) :=
  (bif (decide (t11 < ((b6_5).length : Int))) then
    (bif inB t11 (b6_5).length then
    (bif (((b6_5).getD (Int.toNat t11) (Ty.dflt .value)).kind != 1) then
      (bif inB t11 (b6_4).length then
      (match F18 n (V.mk b5_0 b5_1 b5_2 b5_3 b5_4 b5_5) ((b6_4).getD (Int.toNat t11) (Ty.dflt .str)) with
      | some r8 =>
      (bif (decide (r8 < 0)) then
        (bif inB t11 (b6_4).length then
        (bif (decide (((b7_4).length + (([((b6_4).getD (Int.toNat t11) (Ty.dflt .str))] : List (List UInt8))).length) * 16 ≤ maxRoom) && decide ((b7_4).length + (([((b6_4).getD (Int.toNat t11) (Ty.dflt .str))] : List (List UInt8))).length ≤ maxRoom)) then
        (bif inB t11 (b6_5).length then
        (match F15 n (V.mk 0 false 0 ([] : List UInt8) ([] : List (List UInt8)) ([] : List V)) ((b6_5).getD (Int.toNat t11) (Ty.dflt .value)) with
        | some r9 =>
        (bif (decide (((b7_5).length + (([r9] : List V)).length) * 88 ≤ maxRoom) && decide ((b7_5).length + (([r9] : List V)).length ≤ maxRoom)) then
        rF6l2 (IntKind.wrap .i64 (t11 + 1)) b5_0 b5_1 b5_2 b5_3 b5_4 b5_5 b6_0 b6_1 b6_2 b6_3 b6_4 b6_5 b7_0 b7_1 b7_2 b7_3 (b7_4 ++ ([((b6_4).getD (Int.toNat t11) (Ty.dflt .str))] : List (List UInt8))) (b7_5 ++ ([r9] : List V))
        else none)
        | none => none)
        else none)
        else none)
        else none)
      else
        rF6l2 (IntKind.wrap .i64 (t11 + 1)) b5_0 b5_1 b5_2 b5_3 b5_4 b5_5 b6_0 b6_1 b6_2 b6_3 b6_4 b6_5 b7_0 b7_1 b7_2 b7_3 b7_4 b7_5)
      | none => none)
      else none)
    else
      rF6l2 (IntKind.wrap .i64 (t11 + 1)) b5_0 b5_1 b5_2 b5_3 b5_4 b5_5 b6_0 b6_1 b6_2 b6_3 b6_4 b6_5 b7_0 b7_1 b7_2 b7_3 b7_4 b7_5)
    else none)
  else
    (match F15 n (V.mk b5_0 b5_1 b5_2 b5_3 b5_4 b5_5) (V.mk b6_0 b6_1 b6_2 b6_3 b6_4 b6_5) with
    | some r10 =>
    (match F14 n r10 (V.mk b7_0 b7_1 b7_2 b7_3 b7_4 b7_5) with
    | some r11 =>
    (bif r11 then
      (match F10 n  with
      | some r12 =>
      some r12
      | none => none)
    else
      some false)
    | none => none)
    | none => none))
def F6l2 (n : Nat) : Nat → Int → Int → Bool → Int → List UInt8 → List (List UInt8) → List V → Int → Bool → Int → List UInt8 → List (List UInt8) → List V → Int → Bool → Int → List UInt8 → List (List UInt8) → List V → Option (Bool)
  | 0, _, _, _, _, _, _, _, _, _, _, _, _, _, _, _, _, _, _, _ => none
  | m + 1, t11, b5_0, b5_1, b5_2, b5_3, b5_4, b5_5, b6_0, b6_1, b6_2, b6_3, b6_4, b6_5, b7_0, b7_1, b7_2, b7_3, b7_4, b7_5 => F6l2F n (F6l2 n m) t11 b5_0 b5_1 b5_2 b5_3 b5_4 b5_5 b6_0 b6_1 b6_2 b6_3 b6_4 b6_5 b7_0 b7_1 b7_2 b7_3 b7_4 b7_5

def F6j0 (n : Nat) (b5_0 : Int) (b5_1 : Bool) (b5_2 : Int) (b5_3 : List UInt8) (b5_4 : List (List UInt8)) (b5_5 : List V) (b6_0 : Int) (b6_1 : Bool) (b6_2 : Int) (b6_3 : List UInt8) (b6_4 : List (List UInt8)) (b6_5 : List V) (b7_0 : Int) (b7_1 : Bool) (b7_2 : Int) (b7_3 : List UInt8) (b7_4 : List (List UInt8)) (b7_5 : List V) : Option (Bool) :=
  F6l2 n n 0 b5_0 b5_1 b5_2 b5_3 b5_4 b5_5 b6_0 b6_1 b6_2 b6_3 b6_4 b6_5 b7_0 b7_1 b7_2 b7_3 b7_4 b7_5

def F6l1F (n : Nat) (rF6l1 : Int → Int → Bool → Int → List UInt8 → List (List UInt8) → List V → Int → Bool → Int → List UInt8 → List (List UInt8) → List V → Int → Bool → Int → List UInt8 → List (List UInt8) → List V → Option (Bool)) (t8 : Int) (b5_0 : Int) (b5_1 : Bool) (b5_2 : Int) (b5_3 : List UInt8) (b5_4 : List (List UInt8)) (b5_5 : List V) (b6_0 : Int) (b6_1 : Bool) (b6_2 : Int) (b6_3 : List UInt8) (b6_4 : List (List UInt8)) (b6_5 : List V) (b7_0 : Int) (b7_1 : Bool) (b7_2 : Int) (b7_3 : List UInt8) (b7_4 : List (List UInt8)) (b7_5 : List V) : Option (Bool) :=
  (bif (decide (t8 < ((b5_5).length : Int))) then
    (bif (b5_0 == 6) then
      (bif inB t8 (b5_5).length then
      (bif inB t8 (b5_4).length then
      (match F18 n (V.mk b6_0 b6_1 b6_2 b6_3 b6_4 b6_5) ((b5_4).getD (Int.toNat t8) (Ty.dflt .str)) with
      | some r6 =>
      (bif (decide (r6 ≥ 0)) then
        (bif inB r6 (b6_5).length then
        (bif (((b6_5).getD (Int.toNat r6) (Ty.dflt .value)).kind == 1) then
          rF6l1 (IntKind.wrap .i64 (t8 + 1)) b5_0 b5_1 b5_2 b5_3 b5_4 b5_5 b6_0 b6_1 b6_2 b6_3 b6_4 b6_5 b7_0 b7_1 b7_2 b7_3 b7_4 b7_5
        else
          F6j3 n rF6l1 t8 r6 b5_0 (b5_0 == 6) b5_0 b5_1 b5_2 b5_3 b5_4 b5_5 b6_0 b6_1 b6_2 b6_3 b6_4 b6_5 b7_0 b7_1 b7_2 b7_3 b7_4 b7_5 ((b5_5).getD (Int.toNat t8) (Ty.dflt .value)).kind ((b5_5).getD (Int.toNat t8) (Ty.dflt .value)).b ((b5_5).getD (Int.toNat t8) (Ty.dflt .value)).n ((b5_5).getD (Int.toNat t8) (Ty.dflt .value)).s ((b5_5).getD (Int.toNat t8) (Ty.dflt .value)).names ((b5_5).getD (Int.toNat t8) (Ty.dflt .value)).kids)
        else none)
      else
        F6j3 n rF6l1 t8 r6 b5_0 (b5_0 == 6) b5_0 b5_1 b5_2 b5_3 b5_4 b5_5 b6_0 b6_1 b6_2 b6_3 b6_4 b6_5 b7_0 b7_1 b7_2 b7_3 b7_4 b7_5 ((b5_5).getD (Int.toNat t8) (Ty.dflt .value)).kind ((b5_5).getD (Int.toNat t8) (Ty.dflt .value)).b ((b5_5).getD (Int.toNat t8) (Ty.dflt .value)).n ((b5_5).getD (Int.toNat t8) (Ty.dflt .value)).s ((b5_5).getD (Int.toNat t8) (Ty.dflt .value)).names ((b5_5).getD (Int.toNat t8) (Ty.dflt .value)).kids)
      | none => none)
      else none)
      else none)
    else
      F6j0 n b5_0 b5_1 b5_2 b5_3 b5_4 b5_5 b6_0 b6_1 b6_2 b6_3 b6_4 b6_5 b7_0 b7_1 b7_2 b7_3 b7_4 b7_5)
  else
    F6j0 n b5_0 b5_1 b5_2 b5_3 b5_4 b5_5 b6_0 b6_1 b6_2 b6_3 b6_4 b6_5 b7_0 b7_1 b7_2 b7_3 b7_4 b7_5)
def F6l1 (n : Nat) : Nat → Int → Int → Bool → Int → List UInt8 → List (List UInt8) → List V → Int → Bool → Int → List UInt8 → List (List UInt8) → List V → Int → Bool → Int → List UInt8 → List (List UInt8) → List V → Option (Bool)
  | 0, _, _, _, _, _, _, _, _, _, _, _, _, _, _, _, _, _, _, _ => none
  | m + 1, t8, b5_0, b5_1, b5_2, b5_3, b5_4, b5_5, b6_0, b6_1, b6_2, b6_3, b6_4, b6_5, b7_0, b7_1, b7_2, b7_3, b7_4, b7_5 => F6l1F n (F6l1 n m) t8 b5_0 b5_1 b5_2 b5_3 b5_4 b5_5 b6_0 b6_1 b6_2 b6_3 b6_4 b6_5 b7_0 b7_1 b7_2 b7_3 b7_4 b7_5

def F6 (n : Nat) (a0 : List Int) (a1 : List Int) : Option (Bool) :=
  (match F17 n a0 with
  | some r1 =>
  (match F17 n a1 with
  | some r2 =>
  (bif (r2.kind != 6) then
    (match F10 n  with
    | some r3 =>
    some r3
    | none => none)
  else
    (bif (decide (((a0).length : Int) > 60)) then
      (match F10 n  with
      | some r4 =>
      some r4
      | none => none)
    else
      (bif (decide (((a1).length : Int) > 60)) then
        (match F10 n  with
        | some r5 =>
        some r5
        | none => none)
      else
        F6l1 n n 0 r1.kind r1.b r1.n r1.s r1.names r1.kids r2.kind r2.b r2.n r2.s r2.names r2.kids 6 false 0 ([] : List UInt8) ([] : List (List UInt8)) ([] : List V))))
  | none => none)
  | none => none)

noncomputable def c6 : Code := Try.f6.body.getD .skip

noncomputable def G6 (n : Nat) : Ctx (Res [.bool]) := ent 10 [] [.bool] (fun x => F10 n ) (ent 14 [.value, .value] [.bool] (fun x => F14 n x.1 x.2) (ent 15 [.value, .value] [.value] (fun x => F15 n x.1 x.2) (ent 17 [.slice (.int .i64)] [.value] (fun x => F17 n x) (ent 18 [.value, .str] [.int .i64] (fun x => F18 n x.1 x.2) (noFns)))))

noncomputable def P6 (n : Nat) : Pl (Res [.bool]) :=
  (.two .leaf (.two .leaf (.two .leaf (.two .leaf (.join [.ptr (.tmp 5) 5 0, .ptr (.tmp 6) 6 0, .ptr (.tmp 7) 7 0, .val (.cell 5 0) (.int .i64), .val (.cell 5 1) .bool, .val (.cell 5 2) (.int .i64), .val (.cell 5 3) .str, .val (.cell 5 4) (.slice .str), .val (.cell 5 5) (.slice .value), .val (.cell 6 0) (.int .i64), .val (.cell 6 1) .bool, .val (.cell 6 2) (.int .i64), .val (.cell 6 3) .str, .val (.cell 6 4) (.slice .str), .val (.cell 6 5) (.slice .value), .val (.cell 7 0) (.int .i64), .val (.cell 7 1) .bool, .val (.cell 7 2) (.int .i64), .val (.cell 7 3) .str, .vec (.cell 7 4) 10704 9 .str, .vec (.cell 7 5) 10705 30 .value, .box 5, .box 6, .box 7] (fun x => F6j0 n x.2.2.2.1 x.2.2.2.2.1 x.2.2.2.2.2.1 x.2.2.2.2.2.2.1 x.2.2.2.2.2.2.2.1 x.2.2.2.2.2.2.2.2.1 x.2.2.2.2.2.2.2.2.2.1 x.2.2.2.2.2.2.2.2.2.2.1 x.2.2.2.2.2.2.2.2.2.2.2.1 x.2.2.2.2.2.2.2.2.2.2.2.2.1 x.2.2.2.2.2.2.2.2.2.2.2.2.2.1 x.2.2.2.2.2.2.2.2.2.2.2.2.2.2.1 x.2.2.2.2.2.2.2.2.2.2.2.2.2.2.2.1 x.2.2.2.2.2.2.2.2.2.2.2.2.2.2.2.2.1 x.2.2.2.2.2.2.2.2.2.2.2.2.2.2.2.2.2.1 x.2.2.2.2.2.2.2.2.2.2.2.2.2.2.2.2.2.2.1 x.2.2.2.2.2.2.2.2.2.2.2.2.2.2.2.2.2.2.2.1 x.2.2.2.2.2.2.2.2.2.2.2.2.2.2.2.2.2.2.2.2.1) (.two .leaf (.one (.loop [.ptr (.tmp 5) 5 0, .ptr (.tmp 6) 6 0, .ptr (.tmp 7) 7 0, .val (.tmp 8) (.int .i64), .val (.cell 5 0) (.int .i64), .val (.cell 5 1) .bool, .val (.cell 5 2) (.int .i64), .val (.cell 5 3) .str, .val (.cell 5 4) (.slice .str), .val (.cell 5 5) (.slice .value), .val (.cell 6 0) (.int .i64), .val (.cell 6 1) .bool, .val (.cell 6 2) (.int .i64), .val (.cell 6 3) .str, .val (.cell 6 4) (.slice .str), .val (.cell 6 5) (.slice .value), .val (.cell 7 0) (.int .i64), .val (.cell 7 1) .bool, .val (.cell 7 2) (.int .i64), .val (.cell 7 3) .str, .vec (.cell 7 4) 10704 9 .str, .vec (.cell 7 5) 10705 30 .value, .box 5, .box 6, .box 7] n (fun m x => F6l1 n m x.2.2.2.1 x.2.2.2.2.1 x.2.2.2.2.2.1 x.2.2.2.2.2.2.1 x.2.2.2.2.2.2.2.1 x.2.2.2.2.2.2.2.2.1 x.2.2.2.2.2.2.2.2.2.1 x.2.2.2.2.2.2.2.2.2.2.1 x.2.2.2.2.2.2.2.2.2.2.2.1 x.2.2.2.2.2.2.2.2.2.2.2.2.1 x.2.2.2.2.2.2.2.2.2.2.2.2.2.1 x.2.2.2.2.2.2.2.2.2.2.2.2.2.2.1 x.2.2.2.2.2.2.2.2.2.2.2.2.2.2.2.1 x.2.2.2.2.2.2.2.2.2.2.2.2.2.2.2.2.1 x.2.2.2.2.2.2.2.2.2.2.2.2.2.2.2.2.2.1 x.2.2.2.2.2.2.2.2.2.2.2.2.2.2.2.2.2.2.1 x.2.2.2.2.2.2.2.2.2.2.2.2.2.2.2.2.2.2.2.1 x.2.2.2.2.2.2.2.2.2.2.2.2.2.2.2.2.2.2.2.2.1 x.2.2.2.2.2.2.2.2.2.2.2.2.2.2.2.2.2.2.2.2.2.1) (fun r => let rF6l1 : Int → Int → Bool → Int → List UInt8 → List (List UInt8) → List V → Int → Bool → Int → List UInt8 → List (List UInt8) → List V → Int → Bool → Int → List UInt8 → List (List UInt8) → List V → Option (Bool) := (fun y0 y1 y2 y3 y4 y5 y6 y7 y8 y9 y10 y11 y12 y13 y14 y15 y16 y17 y18 => r ((), (), (), y0, y1, y2, y3, y4, y5, y6, y7, y8, y9, y10, y11, y12, y13, y14, y15, y16, y17, y18, (), (), (), ())); (.two .leaf (.two (.one (.two .leaf (.join [.ptr (.tmp 5) 5 0, .ptr (.tmp 6) 6 0, .ptr (.tmp 7) 7 0, .val (.tmp 8) (.int .i64), .ptr (.tmp 9) 9 0, .val (.tmp 10) (.int .i64), .ptr (.tmp 37) 5 0, .val (.tmp 38) (.int .i64), .val (.tmp 39) .bool, .val (.cell 5 0) (.int .i64), .val (.cell 5 1) .bool, .val (.cell 5 2) (.int .i64), .val (.cell 5 3) .str, .val (.cell 5 4) (.slice .str), .val (.cell 5 5) (.slice .value), .val (.cell 6 0) (.int .i64), .val (.cell 6 1) .bool, .val (.cell 6 2) (.int .i64), .val (.cell 6 3) .str, .val (.cell 6 4) (.slice .str), .val (.cell 6 5) (.slice .value), .val (.cell 7 0) (.int .i64), .val (.cell 7 1) .bool, .val (.cell 7 2) (.int .i64), .val (.cell 7 3) .str, .vec (.cell 7 4) 10704 9 .str, .vec (.cell 7 5) 10705 30 .value, .val (.cell 9 0) (.int .i64), .val (.cell 9 1) .bool, .val (.cell 9 2) (.int .i64), .val (.cell 9 3) .str, .val (.cell 9 4) (.slice .str), .val (.cell 9 5) (.slice .value), .box 5, .box 6, .box 7, .box 9] (fun x => F6j3 n rF6l1 x.2.2.2.1 x.2.2.2.2.2.1 x.2.2.2.2.2.2.2.1 x.2.2.2.2.2.2.2.2.1 x.2.2.2.2.2.2.2.2.2.1 x.2.2.2.2.2.2.2.2.2.2.1 x.2.2.2.2.2.2.2.2.2.2.2.1 x.2.2.2.2.2.2.2.2.2.2.2.2.1 x.2.2.2.2.2.2.2.2.2.2.2.2.2.1 x.2.2.2.2.2.2.2.2.2.2.2.2.2.2.1 x.2.2.2.2.2.2.2.2.2.2.2.2.2.2.2.1 x.2.2.2.2.2.2.2.2.2.2.2.2.2.2.2.2.1 x.2.2.2.2.2.2.2.2.2.2.2.2.2.2.2.2.2.1 x.2.2.2.2.2.2.2.2.2.2.2.2.2.2.2.2.2.2.1 x.2.2.2.2.2.2.2.2.2.2.2.2.2.2.2.2.2.2.2.1 x.2.2.2.2.2.2.2.2.2.2.2.2.2.2.2.2.2.2.2.2.1 x.2.2.2.2.2.2.2.2.2.2.2.2.2.2.2.2.2.2.2.2.2.1 x.2.2.2.2.2.2.2.2.2.2.2.2.2.2.2.2.2.2.2.2.2.2.1 x.2.2.2.2.2.2.2.2.2.2.2.2.2.2.2.2.2.2.2.2.2.2.2.1 x.2.2.2.2.2.2.2.2.2.2.2.2.2.2.2.2.2.2.2.2.2.2.2.2.1 x.2.2.2.2.2.2.2.2.2.2.2.2.2.2.2.2.2.2.2.2.2.2.2.2.2.1 x.2.2.2.2.2.2.2.2.2.2.2.2.2.2.2.2.2.2.2.2.2.2.2.2.2.2.1 x.2.2.2.2.2.2.2.2.2.2.2.2.2.2.2.2.2.2.2.2.2.2.2.2.2.2.2.1 x.2.2.2.2.2.2.2.2.2.2.2.2.2.2.2.2.2.2.2.2.2.2.2.2.2.2.2.2.1 x.2.2.2.2.2.2.2.2.2.2.2.2.2.2.2.2.2.2.2.2.2.2.2.2.2.2.2.2.2.1 x.2.2.2.2.2.2.2.2.2.2.2.2.2.2.2.2.2.2.2.2.2.2.2.2.2.2.2.2.2.2.1 x.2.2.2.2.2.2.2.2.2.2.2.2.2.2.2.2.2.2.2.2.2.2.2.2.2.2.2.2.2.2.2.1 x.2.2.2.2.2.2.2.2.2.2.2.2.2.2.2.2.2.2.2.2.2.2.2.2.2.2.2.2.2.2.2.2.1) .leaf (.join [.ptr (.tmp 5) 5 0, .ptr (.tmp 6) 6 0, .ptr (.tmp 7) 7 0, .val (.tmp 8) (.int .i64), .ptr (.tmp 9) 9 0, .ptr (.tmp 37) 5 0, .val (.tmp 38) (.int .i64), .val (.tmp 39) .bool, .val (.cell 5 0) (.int .i64), .val (.cell 5 1) .bool, .val (.cell 5 2) (.int .i64), .val (.cell 5 3) .str, .val (.cell 5 4) (.slice .str), .val (.cell 5 5) (.slice .value), .val (.cell 6 0) (.int .i64), .val (.cell 6 1) .bool, .val (.cell 6 2) (.int .i64), .val (.cell 6 3) .str, .val (.cell 6 4) (.slice .str), .val (.cell 6 5) (.slice .value), .val (.cell 7 0) (.int .i64), .val (.cell 7 1) .bool, .val (.cell 7 2) (.int .i64), .val (.cell 7 3) .str, .vec (.cell 7 4) 10704 9 .str, .vec (.cell 7 5) 10705 30 .value, .val (.cell 9 0) (.int .i64), .val (.cell 9 1) .bool, .val (.cell 9 2) (.int .i64), .val (.cell 9 3) .str, .val (.cell 9 4) (.slice .str), .val (.cell 9 5) (.slice .value), .box 5, .box 6, .box 7, .box 9] (fun x => F6j4 n rF6l1 x.2.2.2.1 x.2.2.2.2.2.2.1 x.2.2.2.2.2.2.2.1 x.2.2.2.2.2.2.2.2.1 x.2.2.2.2.2.2.2.2.2.1 x.2.2.2.2.2.2.2.2.2.2.1 x.2.2.2.2.2.2.2.2.2.2.2.1 x.2.2.2.2.2.2.2.2.2.2.2.2.1 x.2.2.2.2.2.2.2.2.2.2.2.2.2.1 x.2.2.2.2.2.2.2.2.2.2.2.2.2.2.1 x.2.2.2.2.2.2.2.2.2.2.2.2.2.2.2.1 x.2.2.2.2.2.2.2.2.2.2.2.2.2.2.2.2.1 x.2.2.2.2.2.2.2.2.2.2.2.2.2.2.2.2.2.1 x.2.2.2.2.2.2.2.2.2.2.2.2.2.2.2.2.2.2.1 x.2.2.2.2.2.2.2.2.2.2.2.2.2.2.2.2.2.2.2.1 x.2.2.2.2.2.2.2.2.2.2.2.2.2.2.2.2.2.2.2.2.1 x.2.2.2.2.2.2.2.2.2.2.2.2.2.2.2.2.2.2.2.2.2.1 x.2.2.2.2.2.2.2.2.2.2.2.2.2.2.2.2.2.2.2.2.2.2.1 x.2.2.2.2.2.2.2.2.2.2.2.2.2.2.2.2.2.2.2.2.2.2.2.1 x.2.2.2.2.2.2.2.2.2.2.2.2.2.2.2.2.2.2.2.2.2.2.2.2.1 x.2.2.2.2.2.2.2.2.2.2.2.2.2.2.2.2.2.2.2.2.2.2.2.2.2.1 x.2.2.2.2.2.2.2.2.2.2.2.2.2.2.2.2.2.2.2.2.2.2.2.2.2.2.1 x.2.2.2.2.2.2.2.2.2.2.2.2.2.2.2.2.2.2.2.2.2.2.2.2.2.2.2.1 x.2.2.2.2.2.2.2.2.2.2.2.2.2.2.2.2.2.2.2.2.2.2.2.2.2.2.2.2.1 x.2.2.2.2.2.2.2.2.2.2.2.2.2.2.2.2.2.2.2.2.2.2.2.2.2.2.2.2.2.1 x.2.2.2.2.2.2.2.2.2.2.2.2.2.2.2.2.2.2.2.2.2.2.2.2.2.2.2.2.2.2.1 x.2.2.2.2.2.2.2.2.2.2.2.2.2.2.2.2.2.2.2.2.2.2.2.2.2.2.2.2.2.2.2.1) .leaf .leaf)))) .leaf)))))) (.two (.two .leaf (.one (.loop [.ptr (.tmp 5) 5 0, .ptr (.tmp 6) 6 0, .ptr (.tmp 7) 7 0, .val (.tmp 11) (.int .i64), .val (.cell 5 0) (.int .i64), .val (.cell 5 1) .bool, .val (.cell 5 2) (.int .i64), .val (.cell 5 3) .str, .val (.cell 5 4) (.slice .str), .val (.cell 5 5) (.slice .value), .val (.cell 6 0) (.int .i64), .val (.cell 6 1) .bool, .val (.cell 6 2) (.int .i64), .val (.cell 6 3) .str, .val (.cell 6 4) (.slice .str), .val (.cell 6 5) (.slice .value), .val (.cell 7 0) (.int .i64), .val (.cell 7 1) .bool, .val (.cell 7 2) (.int .i64), .val (.cell 7 3) .str, .vec (.cell 7 4) 10704 9 .str, .vec (.cell 7 5) 10705 30 .value, .box 5, .box 6, .box 7] n (fun m x => F6l2 n m x.2.2.2.1 x.2.2.2.2.1 x.2.2.2.2.2.1 x.2.2.2.2.2.2.1 x.2.2.2.2.2.2.2.1 x.2.2.2.2.2.2.2.2.1 x.2.2.2.2.2.2.2.2.2.1 x.2.2.2.2.2.2.2.2.2.2.1 x.2.2.2.2.2.2.2.2.2.2.2.1 x.2.2.2.2.2.2.2.2.2.2.2.2.1 x.2.2.2.2.2.2.2.2.2.2.2.2.2.1 x.2.2.2.2.2.2.2.2.2.2.2.2.2.2.1 x.2.2.2.2.2.2.2.2.2.2.2.2.2.2.2.1 x.2.2.2.2.2.2.2.2.2.2.2.2.2.2.2.2.1 x.2.2.2.2.2.2.2.2.2.2.2.2.2.2.2.2.2.1 x.2.2.2.2.2.2.2.2.2.2.2.2.2.2.2.2.2.2.1 x.2.2.2.2.2.2.2.2.2.2.2.2.2.2.2.2.2.2.2.1 x.2.2.2.2.2.2.2.2.2.2.2.2.2.2.2.2.2.2.2.2.1 x.2.2.2.2.2.2.2.2.2.2.2.2.2.2.2.2.2.2.2.2.2.1) (fun _ => .leaf)))) .leaf))))))

theorem K6 (n : Nat) : PlOK (G6 n) lay 145 (P6 n) c6 (fnK lay [.tmp 4] [.bool]) :=
  ⟨trivial, ⟨trivial, ⟨trivial, ⟨trivial, ⟨by kernel_rfl, fun x => by kernel_rfl, ⟨trivial, ⟨by kernel_rfl, fun x => by kernel_rfl, fun m => ⟨fun x => by kernel_rfl, ⟨trivial, ⟨⟨trivial, ⟨by kernel_rfl, fun x => by kernel_rfl, trivial, ⟨by kernel_rfl, fun x => by kernel_rfl, trivial, trivial⟩⟩⟩, trivial⟩⟩⟩⟩⟩, ⟨⟨trivial, ⟨by kernel_rfl, fun x => by kernel_rfl, fun m => ⟨fun x => by kernel_rfl, trivial⟩⟩⟩, trivial⟩⟩⟩⟩⟩⟩

theorem E6 (n : Nat) (a0 : List Int) (a1 : List Int) : F6 n a0 a1 = ev (G6 n) lay 145 c6 (P6 n) (args0 0 (argDs [.slice (.int .i64), .slice (.int .i64)] (a0, a1))) (fnK lay [.tmp 4] [.bool]) := by kernel_rfl

theorem T6 (n : Nat) : Told Try.prog 6 [.slice (.int .i64), .slice (.int .i64)] [.bool] (fun x => F6 n x.1 x.2) := by
  rintro ⟨a0, a1⟩ r h
  exact fn_sound lay_ok mixed (ts := [.tmp 4]) (by kernel_rfl : Try.prog.funcs[6]? = some Try.f6) (by kernel_rfl : Try.f6.body = some c6) (by kernel_rfl) (by kernel_rfl) (by kernel_rfl) (ent_ok (T10 n) (ent_ok (T14 n) (ent_ok (T15 n) (ent_ok (T17 n) (ent_ok (T18 n) (noFns_ok)))))) (K6 n) ((E6 n a0 a1).symm.trans h)

end Go.Proofs.Ytdkelhdlfeendaa.Ab
