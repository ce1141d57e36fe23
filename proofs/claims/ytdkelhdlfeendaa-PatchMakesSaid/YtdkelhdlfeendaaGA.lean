/- Functions of the program as Lean functions. Printed by wip/gen/gen3.py. -/
import Derived.Test.YtdkelhdlfeendaaC23
import Derived.Test.YtdkelhdlfeendaaChecked
import Derived.Shelf.Lays2
import Derived.Shelf.RegionOpenPlain
import Derived.Deep.RegionLaw
import Derived.Deep.MidRow
import Derived.Lib.Walk
import Derived.Lib.SliceRun
namespace Go.Proofs.Ytdkelhdlfeendaa.Ab
open Go Go.RowKit Go.Proofs Go.Lib Go.Shelf
set_option maxRecDepth 100000
set_option maxHeartbeats 4000000
set_option linter.unusedVariables false

noncomputable def layL : List (Nat × LInfo) := [
  (3, ⟨Try.t3.desc, (Try.t3.zero).getD .nilFunc, 1, 8, some (.int .i64), false, false⟩),
  (4, ⟨Try.t4.desc, (Try.t4.zero).getD .nilFunc, 1, 1, some .bool, false, false⟩),
  (5, ⟨Try.t5.desc, (Try.t5.zero).getD .nilFunc, 1, 1, some (.int .u8), false, false⟩),
  (9, ⟨Try.t9.desc, (Try.t9.zero).getD .nilFunc, 1, 16, some .str, false, true⟩),
  (21, ⟨Try.t21.desc, (Try.t21.zero).getD .nilFunc, 1, 4, some (.int .i32), false, true⟩),
  (22, ⟨Try.t22.desc, (Try.t22.zero).getD .nilFunc, 1, 24, some (.slice (.pair (.int .i64) (.pair (.int .i64) (.pair .bool (.pair (.int .i64) (.pair .str (.pair .str (.pair .bool .unit)))))))), false, false⟩),
  (25, ⟨Try.t25.desc, (Try.t25.zero).getD .nilFunc, 1, 8, some (.ref (.pair (.map (.int .i32) (.int .i64)) (.pair (.map (.int .i32) (.arr 2 (.int .i32))) (.pair (.map (.int .i32) (.int .i32)) (.pair (.map (.arr 2 (.int .i32)) (.int .i32)) (.pair (.map (.int .i32) (.int .i64)) (.pair (.int .i64) .unit))))))), false, false⟩),
  (27, ⟨Try.t27.desc, (Try.t27.zero).getD .nilFunc, 1, 24, some (.slice .str), false, false⟩),
  (28, ⟨Try.t28.desc, (Try.t28.zero).getD .nilFunc, 1, 24, some (.slice .value), false, false⟩),
  (30, ⟨Try.t29.desc, (Try.t30.zero).getD .nilFunc, 6, 88, some .value, false, false⟩),
  (36, ⟨Try.t36.desc, (Try.t36.zero).getD .nilFunc, 1, 24, some (.slice (.int .i64)), false, false⟩),
  (43, ⟨Try.t42.desc, (Try.t43.zero).getD .nilFunc, 7, 72, some (.pair (.int .i64) (.pair (.int .i64) (.pair .bool (.pair (.int .i64) (.pair .str (.pair .str (.pair .bool .unit))))))), false, false⟩),
  (44, ⟨Try.t44.desc, (Try.t44.zero).getD .nilFunc, 1, 8, some (.map (.int .i32) (.int .i64)), false, false⟩),
  (45, ⟨Try.t45.desc, (Try.t45.zero).getD .nilFunc, 1, 8, some (.map (.int .i32) (.arr 2 (.int .i32))), false, false⟩),
  (46, ⟨Try.t46.desc, (Try.t46.zero).getD .nilFunc, 1, 8, some (.map (.int .i32) (.int .i32)), false, false⟩),
  (47, ⟨Try.t47.desc, (Try.t47.zero).getD .nilFunc, 1, 8, some (.map (.arr 2 (.int .i32)) (.int .i32)), false, false⟩),
  (49, ⟨Try.t48.desc, (Try.t49.zero).getD .nilFunc, 6, 48, some (.pair (.map (.int .i32) (.int .i64)) (.pair (.map (.int .i32) (.arr 2 (.int .i32))) (.pair (.map (.int .i32) (.int .i32)) (.pair (.map (.arr 2 (.int .i32)) (.int .i32)) (.pair (.map (.int .i32) (.int .i64)) (.pair (.int .i64) .unit)))))), false, false⟩),
  (50, ⟨Try.t50.desc, (Try.t50.zero).getD .nilFunc, 1, 24, some (.slice (.slice (.int .i32))), false, false⟩),
  (52, ⟨Try.t52.desc, (Try.t52.zero).getD .nilFunc, 1, 24, some (.slice (.int .i32)), false, false⟩),
  (53, ⟨Try.t53.desc, (Try.t53.zero).getD .nilFunc, 2, 8, some (.arr 2 (.int .i32)), false, true⟩),
  (66, ⟨Try.t66.desc, (Try.t66.zero).getD .nilFunc, 1, 8, some (.map .str (.int .i64)), false, false⟩),
  (70, ⟨Try.t70.desc, (Try.t70.zero).getD .nilFunc, 1, 24, some (.slice (.int .u8)), false, false⟩),
  (74, ⟨Try.t73.desc, (Try.t74.zero).getD .nilFunc, 3, 56, some (.pair (.ref (.pair (.map (.int .i32) (.int .i64)) (.pair (.map (.int .i32) (.arr 2 (.int .i32))) (.pair (.map (.int .i32) (.int .i32)) (.pair (.map (.arr 2 (.int .i32)) (.int .i32)) (.pair (.map (.int .i32) (.int .i64)) (.pair (.int .i64) .unit))))))) (.pair (.slice .str) (.pair (.slice .str) .unit))), false, false⟩),
  (75, ⟨Try.t75.desc, (Try.t75.zero).getD .nilFunc, 3, 48, some (.arr 3 .str), false, false⟩),
  (76, ⟨Try.t76.desc, (Try.t76.zero).getD .nilFunc, 2, 32, some (.arr 2 .str), false, false⟩),
  (77, ⟨Try.t77.desc, (Try.t77.zero).getD .nilFunc, 5, 80, some (.arr 5 .str), false, false⟩)]

theorem layAll : LayAll Try.prog layL := by
  refine .cons (by kernel_rfl) (by kernel_rfl) (by kernel_rfl) ?_
  refine .cons (by kernel_rfl) (by kernel_rfl) (by kernel_rfl) ?_
  refine .cons (by kernel_rfl) (by kernel_rfl) (by kernel_rfl) ?_
  refine .cons (by kernel_rfl) (by kernel_rfl) (by kernel_rfl) ?_
  refine .cons (by kernel_rfl) (by kernel_rfl) (by kernel_rfl) ?_
  refine .cons (by kernel_rfl) (by kernel_rfl) (by kernel_rfl) ?_
  refine .cons (by kernel_rfl) (by kernel_rfl) (by kernel_rfl) ?_
  refine .cons (by kernel_rfl) (by kernel_rfl) (by kernel_rfl) ?_
  refine .cons (by kernel_rfl) (by kernel_rfl) (by kernel_rfl) ?_
  refine .cons (by kernel_rfl) (by kernel_rfl) (by kernel_rfl) ?_
  refine .cons (by kernel_rfl) (by kernel_rfl) (by kernel_rfl) ?_
  refine .cons (by kernel_rfl) (by kernel_rfl) (by kernel_rfl) ?_
  refine .cons (by kernel_rfl) (by kernel_rfl) (by kernel_rfl) ?_
  refine .cons (by kernel_rfl) (by kernel_rfl) (by kernel_rfl) ?_
  refine .cons (by kernel_rfl) (by kernel_rfl) (by kernel_rfl) ?_
  refine .cons (by kernel_rfl) (by kernel_rfl) (by kernel_rfl) ?_
  refine .cons (by kernel_rfl) (by kernel_rfl) (by kernel_rfl) ?_
  refine .cons (by kernel_rfl) (by kernel_rfl) (by kernel_rfl) ?_
  refine .cons (by kernel_rfl) (by kernel_rfl) (by kernel_rfl) ?_
  refine .cons (by kernel_rfl) (by kernel_rfl) (by kernel_rfl) ?_
  refine .cons (by kernel_rfl) (by kernel_rfl) (by kernel_rfl) ?_
  refine .cons (by kernel_rfl) (by kernel_rfl) (by kernel_rfl) ?_
  refine .cons (by kernel_rfl) (by kernel_rfl) (by kernel_rfl) ?_
  refine .cons (by kernel_rfl) (by kernel_rfl) (by kernel_rfl) ?_
  refine .cons (by kernel_rfl) (by kernel_rfl) (by kernel_rfl) ?_
  refine .cons (by kernel_rfl) (by kernel_rfl) (by kernel_rfl) ?_
  exact .nil

theorem mixed : Try.prog.follows .mixedOrders = true := by kernel_rfl

theorem layEq : ∀ t i, layF layL t = some i → EqOK Try.prog (layF layL) t i := eq_none (by kernel_rfl)

theorem layKeys : KeysOK Try.prog layL := keys_all (by kernel_rfl)

noncomputable def lay0 : Lay := layOf layL []
theorem lay0_ok : LayOK Try.prog lay0 := layOf_ok layAll (by simp) layEq layKeys


noncomputable def cc27 : Code := Try.f27.body.getD .skip
theorem clone27 : CloneOK Try.prog 27 9 .str 16 := by
  refine clone_ok (Γ := noFns) lay0_ok mixed (by kernel_rfl : Try.prog.funcs[27]? = some Try.f27) (by kernel_rfl : Try.f27.body = some cc27) (by kernel_rfl) (by kernel_rfl : Try.f27.results = #[.tmp 2]) (by kernel_rfl) noFns_ok noInl_ok (by kernel_rfl) ?_ ?_
  · intro a cap
    kernel_rfl
  · intro x xs h1 h2
    have e : ev noFns noInl lay0 Try.f27.ntmps cc27 .leaf (args0 0 [.val (.slice .str) (x :: xs)]) (ownK 2 9 .str) = bif (decide ((([] : List (List UInt8)).length + (x :: xs).length) * 16 ≤ maxRoom) && decide (([] : List (List UInt8)).length + (x :: xs).length ≤ maxRoom)) then some ([] ++ (x :: xs)) else none := by kernel_rfl
    rw [e, List.nil_append, List.length_nil, Nat.zero_add]
    rw [decide_eq_true h1, decide_eq_true h2]
    rfl

noncomputable def cc28 : Code := Try.f28.body.getD .skip
theorem clone28 : CloneOK Try.prog 28 30 .value 88 := by
  refine clone_ok (Γ := noFns) lay0_ok mixed (by kernel_rfl : Try.prog.funcs[28]? = some Try.f28) (by kernel_rfl : Try.f28.body = some cc28) (by kernel_rfl) (by kernel_rfl : Try.f28.results = #[.tmp 2]) (by kernel_rfl) noFns_ok noInl_ok (by kernel_rfl) ?_ ?_
  · intro a cap
    kernel_rfl
  · intro x xs h1 h2
    have e : ev noFns noInl lay0 Try.f28.ntmps cc28 .leaf (args0 0 [.val (.slice .value) (x :: xs)]) (ownK 2 30 .value) = bif (decide ((([] : List V).length + (x :: xs).length) * 88 ≤ maxRoom) && decide (([] : List V).length + (x :: xs).length ≤ maxRoom)) then some ([] ++ (x :: xs)) else none := by kernel_rfl
    rw [e, List.nil_append, List.length_nil, Nat.zero_add]
    rw [decide_eq_true h1, decide_eq_true h2]
    rfl

def zero30 : Array Value := #[.string ⟨#[]⟩]

set_option maxHeartbeats 4000000 in
set_option maxRecDepth 1000000 in
theorem del30 : DelWalk Try.prog 30 1 zero30 := by
  refine ⟨fun A n cap i w hi hc hm => ?_, fun g n cap i j w news hij hj hcap hm hlen hsrc0 h1c hsp => ?_⟩
  · go_enter Try.func30, Try.ntmps30
    go_wp2
    all_goals (go_ret; exact ⟨rfl, rfl⟩)
  · have mixed : Try.prog.follows .mixedOrders = true := by kernel_rfl
    obtain ⟨i0, hi0, hz1⟩ : ∃ i0, Try.prog.info? 9 = some i0 ∧ i0.size = 1 := ⟨_, rfl, rfl⟩
    obtain ⟨A, hA, hsrc⟩ : ∃ A : Addr, (if cap = j then some (⟨g, 0, none⟩ : Addr) else some ⟨g, j, none⟩) = some A ∧ Hid (∀ t u, news[t]? = some u → w.drew.cell? (A.add t) = some u) := by
      by_cases h : cap = j
      · refine ⟨⟨g, 0, none⟩, by simp [h], fun t u hu => ?_⟩
        have h0 : news.length = 0 := by rw [hlen, show n - j = 0 by omega, Nat.zero_mul]
        rw [List.length_eq_zero_iff.1 h0] at hu
        simp at hu
      · refine ⟨⟨g, j, none⟩, by simp [h], fun t u hu => ?_⟩
        rw [Addr.add_lit]
        have := hsrc0 t u hu
        rw [Nat.mul_one] at this
        exact this
    have s1 : Hid (news.length = (n - j) * 1) := hlen
    have s2 : Hid (∀ u ∈ news, u.oneCell' = true) := h1c
    have s3 : Hid (∀ t, t < news.length → (w.drew.cell? ⟨g, 0 + i * 1 + t, none⟩).isSome = true ∧ w.drew.frozen? ⟨g, 0 + i * 1 + t, none⟩ = false) := by
      intro t ht
      exact hsp _ (by rw [hlen] at ht; omega)
    obtain ⟨W1, hW1⟩ : ∃ W1, W1 = w.drew.setCells g (0 + i * 1) news := ⟨_, rfl⟩
    have hsp1 : ∀ t, t < n * 1 → (W1.cell? ⟨g, t, none⟩).isSome = true ∧ W1.frozen? ⟨g, t, none⟩ = false := by
      intro t ht
      rw [hW1]
      refine ⟨World.isSome_setCells g news _ w.drew _ (hsp t ht).1, ?_⟩
      rw [World.frozen?_setCells]
      exact (hsp t ht).2
    have hcl : ∀ ty, (Builtin.clear_ #[27] ty #[.slice (some ⟨g, (i + (n - j)), none⟩) (n - (i + (n - j))) (cap - (i + (n - j)))]).run Try.prog W1 = .ok (.tuple #[]) (W1.setCells g ((i + (n - j))) (Builtin.zeroCells zero30 (n - (i + (n - j)))).toList) :=
      fun ty => run_clear_cells W1 27 9 ty (.string ⟨#[]⟩) Try.underlying27 (fun w => by kernel_rfl) (by simp [Value.cells, Value.oneCell', zero30]) (by simp [Value.cells, zero30]) g ((i + (n - j))) _ _ (by omega) (fun t ht => (hsp1 _ (by simp [Value.cells, zero30] at ht; omega)).1) (fun t ht => (hsp1 _ (by simp [Value.cells, zero30] at ht; omega)).2)
    have X : Aside (W1 = w.drew.setCells g (0 + i * 1) news) := hW1
    have hW : Hid (W1 = w.drew.setCells g (0 + i * 1) news) := hW1
    have hic : i ≤ cap := by omega
    have hjc : j ≤ cap := by omega
    have hne : i ≠ j := by omega
    clear hW1 hsp1 hsp hsrc0 hlen h1c
    go_enter Try.func30, Try.ntmps30
    go_wp2_with fail
    go_region_law_o (refine step_append_room rfl (.tmp 22) (.tmp 25) 27 rfl 9 i0 1 Try.underlying27 hi0 hz1 g 0 i cap (by simp [Act.eval, Act.put]) A (n - j) (cap - j) news (by simp [Act.eval, Act.put]) s1.out hsrc.out s2.out (by omega) s3.out ?_; rw [← hW.out])
    go_wp2
    go_ret
    refine ⟨rfl, ?_⟩
    rw [X.out]
    simp

theorem delOK30 : DeleteOK Try.prog 30 9 .str := delete_ok (enters (by kernel_rfl : Try.prog.funcs[30]? = some Try.f30) (by kernel_rfl : Try.f30.body = some (Try.f30.body.getD .skip)) (by kernel_rfl)) (by kernel_rfl) (by decide) del30

def zero31 : Array Value := #[.int .i64 0, .bool false, .int .i64 0, .string ⟨#[]⟩, .slice none 0 0, .slice none 0 0]

set_option maxHeartbeats 4000000 in
set_option maxRecDepth 1000000 in
theorem del31 : DelWalk Try.prog 31 6 zero31 := by
  refine ⟨fun A n cap i w hi hc hm => ?_, fun g n cap i j w news hij hj hcap hm hlen hsrc0 h1c hsp => ?_⟩
  · go_enter Try.func31, Try.ntmps31
    go_wp2
    all_goals (go_ret; exact ⟨rfl, rfl⟩)
  · have mixed : Try.prog.follows .mixedOrders = true := by kernel_rfl
    obtain ⟨i0, hi0, hz1⟩ : ∃ i0, Try.prog.info? 30 = some i0 ∧ i0.size = 6 := ⟨_, rfl, rfl⟩
    obtain ⟨A, hA, hsrc⟩ : ∃ A : Addr, (if cap = j then some (⟨g, 0, none⟩ : Addr) else some ⟨g, j * 6, none⟩) = some A ∧ Hid (∀ t u, news[t]? = some u → w.drew.cell? (A.add t) = some u) := by
      by_cases h : cap = j
      · refine ⟨⟨g, 0, none⟩, by simp [h], fun t u hu => ?_⟩
        have h0 : news.length = 0 := by rw [hlen, show n - j = 0 by omega, Nat.zero_mul]
        rw [List.length_eq_zero_iff.1 h0] at hu
        simp at hu
      · refine ⟨⟨g, j * 6, none⟩, by simp [h], fun t u hu => ?_⟩
        rw [Addr.add_lit]
        have := hsrc0 t u hu
        exact this
    have s1 : Hid (news.length = (n - j) * 6) := hlen
    have s2 : Hid (∀ u ∈ news, u.oneCell' = true) := h1c
    have s3 : Hid (∀ t, t < news.length → (w.drew.cell? ⟨g, 0 + i * 6 + t, none⟩).isSome = true ∧ w.drew.frozen? ⟨g, 0 + i * 6 + t, none⟩ = false) := by
      intro t ht
      exact hsp _ (by rw [hlen] at ht; omega)
    obtain ⟨W1, hW1⟩ : ∃ W1, W1 = w.drew.setCells g (0 + i * 6) news := ⟨_, rfl⟩
    have hsp1 : ∀ t, t < n * 6 → (W1.cell? ⟨g, t, none⟩).isSome = true ∧ W1.frozen? ⟨g, t, none⟩ = false := by
      intro t ht
      rw [hW1]
      refine ⟨World.isSome_setCells g news _ w.drew _ (hsp t ht).1, ?_⟩
      rw [World.frozen?_setCells]
      exact (hsp t ht).2
    have hcl : ∀ ty, (Builtin.clear_ #[28] ty #[.slice (some ⟨g, (i + (n - j)) * 6, none⟩) (n - (i + (n - j))) (cap - (i + (n - j)))]).run Try.prog W1 = .ok (.tuple #[]) (W1.setCells g ((i + (n - j)) * 6) (Builtin.zeroCells zero31 (n - (i + (n - j)))).toList) :=
      fun ty => run_clear_cells W1 28 30 ty (.agg zero31) Try.underlying28 (fun w => by kernel_rfl) (by simp [Value.cells, Value.oneCell', zero31]) (by simp [Value.cells, zero31]) g ((i + (n - j)) * 6) _ _ (by omega) (fun t ht => (hsp1 _ (by simp [Value.cells, zero31] at ht; omega)).1) (fun t ht => (hsp1 _ (by simp [Value.cells, zero31] at ht; omega)).2)
    have X : Aside (W1 = w.drew.setCells g (0 + i * 6) news) := hW1
    have hW : Hid (W1 = w.drew.setCells g (0 + i * 6) news) := hW1
    have hic : i ≤ cap := by omega
    have hjc : j ≤ cap := by omega
    have hne : i ≠ j := by omega
    clear hW1 hsp1 hsp hsrc0 hlen h1c
    go_enter Try.func31, Try.ntmps31
    go_wp2_with fail
    go_region_law_o (refine step_append_room rfl (.tmp 22) (.tmp 25) 28 rfl 30 i0 6 Try.underlying28 hi0 hz1 g 0 i cap (by simp [Act.eval, Act.put]) A (n - j) (cap - j) news (by simp [Act.eval, Act.put]) s1.out hsrc.out s2.out (by omega) s3.out ?_; rw [← hW.out])
    go_wp2
    go_ret
    refine ⟨rfl, ?_⟩
    rw [X.out]
    simp

theorem delOK31 : DeleteOK Try.prog 31 30 .value := delete_ok (enters (by kernel_rfl : Try.prog.funcs[31]? = some Try.f31) (by kernel_rfl : Try.f31.body = some (Try.f31.body.getD .skip)) (by kernel_rfl)) (by kernel_rfl) (by decide) del31

/-! ### orthoepy/orthoepyref05.digit -/

def F33 (n : Nat) (a0 : Int) : Option (Int) :=
  (bif (decide (a0 ≥ 48)) then
    (bif (decide (a0 ≤ 57)) then
      some (IntKind.wrap .i32 ((IntKind.wrap .u8 (a0 - 48))))
    else
      (bif (decide (a0 ≥ 97)) then
        (bif (decide (a0 ≤ 102)) then
          some (IntKind.wrap .i32 ((IntKind.wrap .i32 ((IntKind.wrap .u8 (a0 - 97)))) + 10))
        else
          some (-1))
      else
        some (-1)))
  else
    (bif (decide (a0 ≥ 97)) then
      (bif (decide (a0 ≤ 102)) then
        some (IntKind.wrap .i32 ((IntKind.wrap .i32 ((IntKind.wrap .u8 (a0 - 97)))) + 10))
      else
        some (-1))
    else
      some (-1)))

noncomputable def c33 : Code := Try.f33.body.getD .skip

noncomputable def G33 (n : Nat) : Ctx (Res [.int .i32]) := noFns

theorem GO33 (n : Nat) : CtxOK Try.prog lay0 (G33 n) := noFns_ok

noncomputable def P33 (n : Nat) : Pl (Res [.int .i32]) :=
  .leaf

theorem K33 (n : Nat) : PlOK (G33 n) noInl lay0 24 (P33 n) c33 (fnK lay0 [.tmp 2] [.val (.int .u8)] [.val (.int .i32)] [.int .i32]) :=
  trivial

theorem E33 (n : Nat) (a0 : Int) : F33 n a0 = fnE [.val (.int .u8)] (argDs [.int .u8] (a0)) (fun st => ev (G33 n) noInl lay0 24 c33 (P33 n) st (fnK lay0 [.tmp 2] [.val (.int .u8)] [.val (.int .i32)] [.int .i32])) := by kernel_rfl

theorem T33 (n : Nat) : Told Try.prog 33 [.int .u8] [.int .i32] (fun x => F33 n x) := by
  rintro a0 r h
  exact calls_plain (fn_sound lay0_ok mixed (rvs := [.tmp 2]) (by kernel_rfl : Try.prog.funcs[33]? = some Try.f33) (by kernel_rfl : Try.f33.body = some c33) (by kernel_rfl) (by kernel_rfl) (by kernel_rfl) (GO33 n) noInl_ok (K33 n) ((E33 n a0).symm.trans h)) rfl rfl rfl rfl

/-! ### orthoepy/orthoepyref05.rows -/

def F22j3 (n : Nat) (rF22l0 : List UInt8 → List (List Int) → List Int → Int → Bool → Int → Option ((List (List Int)))) (t0 : List UInt8) (t3 : List (List Int)) (t4 : List Int) (t5 : Int) (t6 : Bool) (t7 : Int) (t8 : Int) : Option ((List (List Int))) :=
  (bif (t8 == 44) then
    (bif (decide (((t4).length : Int) > 0)) then
      (bif (decide (((t3).length + (([t4] : List (List Int))).length) * 24 ≤ maxRoom) && decide ((t3).length + (([t4] : List (List Int))).length ≤ maxRoom)) then
      rF22l0 t0 (t3 ++ ([t4] : List (List Int))) ([] : List Int) t5 t6 (IntKind.wrap .i64 (t7 + 1))
      else none)
    else
      rF22l0 t0 t3 t4 t5 t6 (IntKind.wrap .i64 (t7 + 1)))
  else
    (bif (t8 == 10) then
      (bif (decide (((t4).length : Int) > 0)) then
        (bif (decide (((t3).length + (([t4] : List (List Int))).length) * 24 ≤ maxRoom) && decide ((t3).length + (([t4] : List (List Int))).length ≤ maxRoom)) then
        rF22l0 t0 (t3 ++ ([t4] : List (List Int))) ([] : List Int) t5 t6 (IntKind.wrap .i64 (t7 + 1))
        else none)
      else
        rF22l0 t0 t3 t4 t5 t6 (IntKind.wrap .i64 (t7 + 1)))
    else
      rF22l0 t0 t3 t4 t5 t6 (IntKind.wrap .i64 (t7 + 1))))

def F22j2 (n : Nat) (rF22l0 : List UInt8 → List (List Int) → List Int → Int → Bool → Int → Option ((List (List Int)))) (t0 : List UInt8) (t3 : List (List Int)) (t4 : List Int) (t7 : Int) (t8 : Int) : Option ((List (List Int))) :=
  (bif (t8 == 33) then
    (bif (decide (((t4).length + (([(-1)] : List Int)).length) * 4 ≤ maxRoom) && decide ((t4).length + (([(-1)] : List Int)).length ≤ maxRoom)) then
    F22j3 n rF22l0 t0 t3 (t4 ++ ([(-1)] : List Int)) 0 false t7 t8
    else none)
  else
    F22j3 n rF22l0 t0 t3 t4 0 false t7 t8)

def F22j1 (n : Nat) (rF22l0 : List UInt8 → List (List Int) → List Int → Int → Bool → Int → Option ((List (List Int)))) (t0 : List UInt8) (t3 : List (List Int)) (t4 : List Int) (t5 : Int) (t6 : Bool) (t7 : Int) (t8 : Int) : Option ((List (List Int))) :=
  (match F33 n t8 with
  | some r1 =>
  (bif (decide (r1 ≥ 0)) then
    (match F33 n t8 with
    | some r2 =>
    rF22l0 t0 t3 t4 (IntKind.wrap .i32 ((IntKind.wrap .i32 (16 * t5)) + r2)) true (IntKind.wrap .i64 (t7 + 1))
    | none => none)
  else
    (bif t6 then
      (bif (decide (((t4).length + (([t5] : List Int)).length) * 4 ≤ maxRoom) && decide ((t4).length + (([t5] : List Int)).length ≤ maxRoom)) then
      F22j2 n rF22l0 t0 t3 (t4 ++ ([t5] : List Int)) t7 t8
      else none)
    else
      F22j2 n rF22l0 t0 t3 t4 t7 t8))
  | none => none)

def F22l0F (n : Nat) (rF22l0 : List UInt8 → List (List Int) → List Int → Int → Bool → Int → Option ((List (List Int)))) (t0 : List UInt8) (t3 : List (List Int)) (t4 : List Int) (t5 : Int) (t6 : Bool) (t7 : Int) : Option ((List (List Int))) :=
  (bif (decide (t7 ≤ ((t0).length : Int))) then
    (bif (decide (t7 < ((t0).length : Int))) then
      (bif inB t7 (t0).length then
      F22j1 n rF22l0 t0 t3 t4 t5 t6 t7 (((t0).getD (Int.toNat t7) 0).toNat : Int)
      else none)
    else
      F22j1 n rF22l0 t0 t3 t4 t5 t6 t7 10)
  else
    some t3)
def F22l0 (n : Nat) : Nat → List UInt8 → List (List Int) → List Int → Int → Bool → Int → Option ((List (List Int)))
  | 0, _, _, _, _, _, _ => none
  | m + 1, t0, t3, t4, t5, t6, t7 => F22l0F n (F22l0 n m) t0 t3 t4 t5 t6 t7

def F22 (n : Nat) (a0 : List UInt8) : Option ((List (List Int))) :=
  F22l0 n n a0 ([] : List (List Int)) ([] : List Int) 0 false 0

noncomputable def c22 : Code := Try.f22.body.getD .skip

noncomputable def G22 (n : Nat) : Ctx (Res [.slice (.slice (.int .i32))]) := ent 33 [.int .u8] [.int .i32] (fun x => F33 n x) (noFns)

theorem GO22 (n : Nat) : CtxOK Try.prog lay0 (G22 n) := ent_ok (T33 n) (fun _ _ h => h) (noFns_ok)

noncomputable def P22 (n : Nat) : Pl (Res [.slice (.slice (.int .i32))]) :=
  (.two .leaf (.two .leaf (.two .leaf (.two .leaf (.two (.two .leaf (.one (.loop [.val (.tmp 0) .str, .vec (.tmp 3) 20000000 52 (.slice (.int .i32)), .vec (.tmp 4) 20000001 21 (.int .i32), .val (.tmp 5) (.int .i32), .val (.tmp 6) .bool, .val (.tmp 7) (.int .i64)] n (fun m x => F22l0 n m x.1 x.2.1 x.2.2.1 x.2.2.2.1 x.2.2.2.2.1 x.2.2.2.2.2.1) (fun r => let rF22l0 : List UInt8 → List (List Int) → List Int → Int → Bool → Int → Option ((List (List Int))) := (fun y0 y1 y2 y3 y4 y5 => r (y0, y1, y2, y3, y4, y5, ())); (.two .leaf (.two (.one (.two .leaf (.join [.val (.tmp 0) .str, .vec (.tmp 3) 20000000 52 (.slice (.int .i32)), .vec (.tmp 4) 20000001 21 (.int .i32), .val (.tmp 5) (.int .i32), .val (.tmp 6) .bool, .val (.tmp 7) (.int .i64), .val (.tmp 8) (.int .u8)] (fun x => F22j1 n rF22l0 x.1 x.2.1 x.2.2.1 x.2.2.2.1 x.2.2.2.2.1 x.2.2.2.2.2.1 x.2.2.2.2.2.2.1) .leaf (.two .leaf (.join [.val (.tmp 0) .str, .vec (.tmp 3) 20000000 52 (.slice (.int .i32)), .vec (.tmp 4) 20000001 21 (.int .i32), .val (.tmp 7) (.int .i64), .val (.tmp 8) (.int .u8)] (fun x => F22j2 n rF22l0 x.1 x.2.1 x.2.2.1 x.2.2.2.1 x.2.2.2.2.1) .leaf (.two .leaf (.join [.val (.tmp 0) .str, .vec (.tmp 3) 20000000 52 (.slice (.int .i32)), .vec (.tmp 4) 20000001 21 (.int .i32), .val (.tmp 5) (.int .i32), .val (.tmp 6) .bool, .val (.tmp 7) (.int .i64), .val (.tmp 8) (.int .u8)] (fun x => F22j3 n rF22l0 x.1 x.2.1 x.2.2.1 x.2.2.2.1 x.2.2.2.2.1 x.2.2.2.2.2.1 x.2.2.2.2.2.2.1) .leaf .leaf))))))) .leaf)))))) .leaf)))))

theorem K22 (n : Nat) : PlOK (G22 n) noInl lay0 56 (P22 n) c22 (fnK lay0 [.tmp 2] [.val .str] [.val (.slice (.slice (.int .i32)))] [.slice (.slice (.int .i32))]) :=
  ⟨trivial, ⟨trivial, ⟨trivial, ⟨trivial, ⟨⟨trivial, ⟨by kernel_rfl, fun x => by kernel_rfl, fun m => ⟨fun x => by kernel_rfl, ⟨trivial, ⟨⟨trivial, ⟨by kernel_rfl, fun x => by kernel_rfl, trivial, ⟨trivial, ⟨by kernel_rfl, fun x => by kernel_rfl, trivial, ⟨trivial, ⟨by kernel_rfl, fun x => by kernel_rfl, trivial, trivial⟩⟩⟩⟩⟩⟩, trivial⟩⟩⟩⟩⟩, trivial⟩⟩⟩⟩⟩

theorem E22 (n : Nat) (a0 : List UInt8) : F22 n a0 = fnE [.val .str] (argDs [.str] (a0)) (fun st => ev (G22 n) noInl lay0 56 c22 (P22 n) st (fnK lay0 [.tmp 2] [.val .str] [.val (.slice (.slice (.int .i32)))] [.slice (.slice (.int .i32))])) := by kernel_rfl

theorem T22 (n : Nat) : Told Try.prog 22 [.str] [.slice (.slice (.int .i32))] (fun x => F22 n x) := by
  rintro a0 r h
  exact calls_plain (fn_sound lay0_ok mixed (rvs := [.tmp 2]) (by kernel_rfl : Try.prog.funcs[22]? = some Try.f22) (by kernel_rfl : Try.f22.body = some c22) (by kernel_rfl) (by kernel_rfl) (by kernel_rfl) (GO22 n) noInl_ok (K22 n) ((E22 n a0).symm.trans h)) rfl rfl rfl rfl

/-! ### orthoepy/orthoepyref05.Build -/

def F11l3F (n : Nat) (rF11l0 : Int → List (List Int) → Int → List (Int × Int) → List (Int × List Int) → List (Int × Int) → List (List Int × Int) → List (Int × Int) → Int → Option ((Option (List (Int × Int) × (List (Int × List Int) × (List (Int × Int) × (List (List Int × Int) × (List (Int × Int) × (Int × Unit))))))))) (rF11l3 : Int → List (List Int) → Int → Int → List (Int × Int) → List (Int × List Int) → List (Int × Int) → List (List Int × Int) → List (Int × Int) → Int → Option ((Option (List (Int × Int) × (List (Int × List Int) × (List (Int × Int) × (List (List Int × Int) × (List (Int × Int) × (Int × Unit))))))))) (t2 : Int) (t3 : List (List Int)) (t4 : Int) (t5 : Int) (b15_0 : List (Int × Int)) (b15_1 : List (Int × List Int)) (b15_2 : List (Int × Int)) (b15_3 : List (List Int × Int)) (b15_4 : List (Int × Int)) (b15_5 : Int) : Option ((Option (List (Int × Int) × (List (Int × List Int) × (List (Int × Int) × (List (List Int × Int) × (List (Int × Int) × (Int × Unit)))))))) :=
  (bif inB t4 (t3).length then
  (bif inB 1 (((t3).getD (Int.toNat t4) (Ty.dflt (.slice (.int .i32))))).length then
  (bif (decide (t5 < ((((t3).getD (Int.toNat t4) (Ty.dflt (.slice (.int .i32))))).getD (Int.toNat 1) (Ty.dflt (.int .i32))))) then
    (bif inB t4 (t3).length then
    (bif inB 2 (((t3).getD (Int.toNat t4) (Ty.dflt (.slice (.int .i32))))).length then
    rF11l3 (IntKind.wrap .i32 (t2 + 1)) t3 t4 (IntKind.wrap .i32 (t5 + 1)) (mapPut (Ty.beq (.int .i32)) b15_0 t2 (IntKind.wrap .i64 (((((t3).getD (Int.toNat t4) (Ty.dflt (.slice (.int .i32))))).getD (Int.toNat 2) (Ty.dflt (.int .i32)))))) b15_1 b15_2 b15_3 b15_4 b15_5
    else none)
    else none)
  else
    rF11l0 t2 t3 (IntKind.wrap .i64 (t4 + 1)) b15_0 b15_1 b15_2 b15_3 b15_4 b15_5)
  else none)
  else none)
def F11l3 (n : Nat) (rF11l0 : Int → List (List Int) → Int → List (Int × Int) → List (Int × List Int) → List (Int × Int) → List (List Int × Int) → List (Int × Int) → Int → Option ((Option (List (Int × Int) × (List (Int × List Int) × (List (Int × Int) × (List (List Int × Int) × (List (Int × Int) × (Int × Unit))))))))) : Nat → Int → List (List Int) → Int → Int → List (Int × Int) → List (Int × List Int) → List (Int × Int) → List (List Int × Int) → List (Int × Int) → Int → Option ((Option (List (Int × Int) × (List (Int × List Int) × (List (Int × Int) × (List (List Int × Int) × (List (Int × Int) × (Int × Unit))))))))
  | 0, _, _, _, _, _, _, _, _, _, _ => none
  | m + 1, t2, t3, t4, t5, b15_0, b15_1, b15_2, b15_3, b15_4, b15_5 => F11l3F n rF11l0 (F11l3 n rF11l0 m) t2 t3 t4 t5 b15_0 b15_1 b15_2 b15_3 b15_4 b15_5

def F11l2F (n : Nat) (rF11l2 : Int → List (List Int) → Int → List (Int × Int) → List (Int × List Int) → List (Int × Int) → List (List Int × Int) → List (Int × Int) → Int → Option ((Option (List (Int × Int) × (List (Int × List Int) × (List (Int × Int) × (List (List Int × Int) × (List (Int × Int) × (Int × Unit))))))))) (t2 : Int) (t3 : List (List Int)) (t8 : Int) (b15_0 : List (Int × Int)) (b15_1 : List (Int × List Int)) (b15_2 : List (Int × Int)) (b15_3 : List (List Int × Int)) (b15_4 : List (Int × Int)) (b15_5 : Int) : Option ((Option (List (Int × Int) × (List (Int × List Int) × (List (Int × Int) × (List (List Int × Int) × (List (Int × Int) × (Int × Unit)))))))) :=
  (bif (decide (t8 < ((t3).length : Int))) then
    (bif inB t8 (t3).length then
    (bif inB 0 (((t3).getD (Int.toNat t8) (Ty.dflt (.slice (.int .i32))))).length then
    (bif inB t8 (t3).length then
    (bif inB 1 (((t3).getD (Int.toNat t8) (Ty.dflt (.slice (.int .i32))))).length then
    rF11l2 (IntKind.wrap .i32 (t2 + ((((t3).getD (Int.toNat t8) (Ty.dflt (.slice (.int .i32))))).getD (Int.toNat 0) (Ty.dflt (.int .i32))))) t3 (IntKind.wrap .i64 (t8 + 1)) b15_0 b15_1 (mapPut (Ty.beq (.int .i32)) b15_2 (IntKind.wrap .i32 (t2 + ((((t3).getD (Int.toNat t8) (Ty.dflt (.slice (.int .i32))))).getD (Int.toNat 0) (Ty.dflt (.int .i32))))) ((((t3).getD (Int.toNat t8) (Ty.dflt (.slice (.int .i32))))).getD (Int.toNat 1) (Ty.dflt (.int .i32)))) b15_3 b15_4 b15_5
    else none)
    else none)
    else none)
    else none)
  else
    some (some (b15_0, (b15_1, (b15_2, (b15_3, (b15_4, (b15_5, ()))))))))
def F11l2 (n : Nat) : Nat → Int → List (List Int) → Int → List (Int × Int) → List (Int × List Int) → List (Int × Int) → List (List Int × Int) → List (Int × Int) → Int → Option ((Option (List (Int × Int) × (List (Int × List Int) × (List (Int × Int) × (List (List Int × Int) × (List (Int × Int) × (Int × Unit))))))))
  | 0, _, _, _, _, _, _, _, _, _ => none
  | m + 1, t2, t3, t8, b15_0, b15_1, b15_2, b15_3, b15_4, b15_5 => F11l2F n (F11l2 n m) t2 t3 t8 b15_0 b15_1 b15_2 b15_3 b15_4 b15_5

def F11l1F (n : Nat) (rF11l1 : Int → List (List Int) → Int → List (Int × Int) → List (Int × List Int) → List (Int × Int) → List (List Int × Int) → List (Int × Int) → Int → Option ((Option (List (Int × Int) × (List (Int × List Int) × (List (Int × Int) × (List (List Int × Int) × (List (Int × Int) × (Int × Unit))))))))) (t2 : Int) (t3 : List (List Int)) (t6 : Int) (b15_0 : List (Int × Int)) (b15_1 : List (Int × List Int)) (b15_2 : List (Int × Int)) (b15_3 : List (List Int × Int)) (b15_4 : List (Int × Int)) (b15_5 : Int) : Option ((Option (List (Int × Int) × (List (Int × List Int) × (List (Int × Int) × (List (List Int × Int) × (List (Int × Int) × (Int × Unit)))))))) :=
  (bif (decide (t6 < ((t3).length : Int))) then
    (bif inB t6 (t3).length then
    (bif inB 0 (((t3).getD (Int.toNat t6) (Ty.dflt (.slice (.int .i32))))).length then
    (bif inB t6 (t3).length then
    (bif inB 1 (((t3).getD (Int.toNat t6) (Ty.dflt (.slice (.int .i32))))).length then
    (bif inB t6 (t3).length then
    (bif inB 2 (((t3).getD (Int.toNat t6) (Ty.dflt (.slice (.int .i32))))).length then
    (bif inB t6 (t3).length then
    (bif (decide (((((t3).getD (Int.toNat t6) (Ty.dflt (.slice (.int .i32))))).length : Int) > 3)) then
      rF11l1 (IntKind.wrap .i32 (t2 + ((((t3).getD (Int.toNat t6) (Ty.dflt (.slice (.int .i32))))).getD (Int.toNat 0) (Ty.dflt (.int .i32))))) t3 (IntKind.wrap .i64 (t6 + 1)) b15_0 (mapPut (Ty.beq (.int .i32)) b15_1 (IntKind.wrap .i32 (t2 + ((((t3).getD (Int.toNat t6) (Ty.dflt (.slice (.int .i32))))).getD (Int.toNat 0) (Ty.dflt (.int .i32))))) ([((((t3).getD (Int.toNat t6) (Ty.dflt (.slice (.int .i32))))).getD (Int.toNat 1) (Ty.dflt (.int .i32))), ((((t3).getD (Int.toNat t6) (Ty.dflt (.slice (.int .i32))))).getD (Int.toNat 2) (Ty.dflt (.int .i32)))] : List Int)) b15_2 b15_3 b15_4 (IntKind.wrap .i64 (b15_5 + 1))
    else
      rF11l1 (IntKind.wrap .i32 (t2 + ((((t3).getD (Int.toNat t6) (Ty.dflt (.slice (.int .i32))))).getD (Int.toNat 0) (Ty.dflt (.int .i32))))) t3 (IntKind.wrap .i64 (t6 + 1)) b15_0 (mapPut (Ty.beq (.int .i32)) b15_1 (IntKind.wrap .i32 (t2 + ((((t3).getD (Int.toNat t6) (Ty.dflt (.slice (.int .i32))))).getD (Int.toNat 0) (Ty.dflt (.int .i32))))) ([((((t3).getD (Int.toNat t6) (Ty.dflt (.slice (.int .i32))))).getD (Int.toNat 1) (Ty.dflt (.int .i32))), ((((t3).getD (Int.toNat t6) (Ty.dflt (.slice (.int .i32))))).getD (Int.toNat 2) (Ty.dflt (.int .i32)))] : List Int)) b15_2 (mapPut (Ty.beq (.arr 2 (.int .i32))) b15_3 ([((((t3).getD (Int.toNat t6) (Ty.dflt (.slice (.int .i32))))).getD (Int.toNat 1) (Ty.dflt (.int .i32))), ((((t3).getD (Int.toNat t6) (Ty.dflt (.slice (.int .i32))))).getD (Int.toNat 2) (Ty.dflt (.int .i32)))] : List Int) (IntKind.wrap .i32 (t2 + ((((t3).getD (Int.toNat t6) (Ty.dflt (.slice (.int .i32))))).getD (Int.toNat 0) (Ty.dflt (.int .i32)))))) (mapPut (Ty.beq (.int .i32)) b15_4 ((((t3).getD (Int.toNat t6) (Ty.dflt (.slice (.int .i32))))).getD (Int.toNat 2) (Ty.dflt (.int .i32))) 1) b15_5)
    else none)
    else none)
    else none)
    else none)
    else none)
    else none)
    else none)
  else
    (match F22 n ([51, 52, 48, 32, 51, 48, 48, 44, 49, 32, 51, 48, 49, 44, 50, 32, 51, 49, 51, 44, 51, 49, 32, 50, 98, 57, 44, 97, 32, 51, 98, 44, 57, 32, 98, 55, 44, 49, 98, 101, 97, 32, 51, 97, 99, 44, 50, 32, 51, 97, 100, 44, 50, 32, 51, 97, 101, 44, 50, 32, 51, 97, 102, 44, 50, 32, 51, 99, 99, 44, 50, 32, 51, 99, 100, 44, 50, 32, 51, 99, 101, 44, 51, 101, 32, 51, 56, 54, 44, 51, 32, 51, 98, 57, 44, 98, 32, 51, 56, 56, 10, 50, 32, 51, 56, 57, 44, 56, 32, 51, 57, 48, 44, 56, 32, 51, 56, 97, 44, 56, 32, 51, 98, 48, 44, 56, 32, 51, 56, 101, 44, 51, 32, 51, 56, 53, 44, 49, 32, 54, 48, 44, 97, 32, 51, 56, 99, 44, 50, 32, 51, 56, 102, 44, 50, 32, 98, 52, 44, 51, 32, 50, 48, 48, 50, 44, 49, 32, 50, 48, 48, 51, 44, 49, 50, 53, 32, 51, 97, 57, 44, 52, 32, 52, 98, 44, 49, 32, 99, 53, 44, 49, 102, 101, 32, 51, 48, 48, 56, 10, 49, 32, 51, 48, 48, 57, 44, 100, 53, 100, 54, 32, 56, 99, 52, 56, 44, 49, 32, 54, 54, 102, 52, 44, 49, 32, 56, 101, 99, 97, 44, 49, 32, 56, 99, 99, 56, 44, 49, 32, 54, 101, 100, 49, 44, 49, 32, 52, 101, 51, 50, 44, 49, 32, 53, 51, 101, 53, 44, 49, 32, 57, 102, 57, 99, 44, 49, 32, 57, 102, 57, 99, 44, 49, 32, 53, 57, 53, 49, 44, 49, 32, 57, 49, 100, 49, 44, 49, 32, 53, 53, 56, 55, 44, 49, 32, 53, 57, 52, 56, 44, 49, 32, 54, 49, 102, 54, 44, 49, 32, 55, 54, 54, 57, 10, 49, 32, 55, 102, 56, 53, 44, 49, 32, 56, 54, 51, 102, 44, 49, 32, 56, 55, 98, 97, 44, 49, 32, 56, 56, 102, 56, 44, 49, 32, 57, 48, 56, 102, 44, 49, 32, 54, 97, 48, 50, 44, 49, 32, 54, 100, 49, 98, 44, 49, 32, 55, 48, 100, 57, 44, 49, 32, 55, 51, 100, 101, 44, 49, 32, 56, 52, 51, 100, 44, 49, 32, 57, 49, 54, 97, 44, 49, 32, 57, 57, 102, 49, 44, 49, 32, 52, 101, 56, 50, 44, 49, 32, 53, 51, 55, 53, 44, 49, 32, 54, 98, 48, 52, 44, 49, 32, 55, 50, 49, 98, 10, 49, 32, 56, 54, 50, 100, 44, 49, 32, 57, 101, 49, 101, 44, 49, 32, 53, 100, 53, 48, 44, 49, 32, 54, 102, 101, 98, 44, 49, 32, 56, 53, 99, 100, 44, 49, 32, 56, 57, 54, 52, 44, 49, 32, 54, 50, 99, 57, 44, 49, 32, 56, 49, 100, 56, 44, 49, 32, 56, 56, 49, 102, 44, 49, 32, 53, 101, 99, 97, 44, 49, 32, 54, 55, 49, 55, 44, 49, 32, 54, 100, 54, 97, 44, 49, 32, 55, 50, 102, 99, 44, 49, 32, 57, 48, 99, 101, 44, 49, 32, 52, 102, 56, 54, 44, 49, 32, 53, 49, 98, 55, 10, 49, 32, 53, 50, 100, 101, 44, 49, 32, 54, 52, 99, 52, 44, 49, 32, 54, 97, 100, 51, 44, 49, 32, 55, 50, 49, 48, 44, 49, 32, 55, 54, 101, 55, 44, 49, 32, 56, 48, 48, 49, 44, 49, 32, 56, 54, 48, 54, 44, 49, 32, 56, 54, 53, 99, 44, 49, 32, 56, 100, 101, 102, 44, 49, 32, 57, 55, 51, 50, 44, 49, 32, 57, 98, 54, 102, 44, 49, 32, 57, 100, 102, 97, 44, 49, 32, 55, 56, 56, 99, 44, 49, 32, 55, 57, 55, 102, 44, 49, 32, 55, 100, 97, 48, 44, 49, 32, 56, 51, 99, 57, 10, 49, 32, 57, 51, 48, 52, 44, 49, 32, 57, 101, 55, 102, 44, 49, 32, 56, 97, 100, 54, 44, 49, 32, 53, 56, 100, 102, 44, 49, 32, 53, 102, 48, 52, 44, 49, 32, 55, 99, 54, 48, 44, 49, 32, 56, 48, 55, 101, 44, 49, 32, 55, 50, 54, 50, 44, 49, 32, 55, 56, 99, 97, 44, 49, 32, 56, 99, 99, 50, 44, 49, 32, 57, 54, 102, 55, 44, 49, 32, 53, 56, 100, 56, 44, 49, 32, 53, 99, 54, 50, 44, 49, 32, 54, 97, 49, 51, 44, 49, 32, 54, 100, 100, 97, 44, 49, 32, 54, 102, 48, 102, 10, 49, 32, 55, 100, 50, 102, 44, 49, 32, 55, 101, 51, 55, 44, 49, 32, 57, 54, 52, 98, 44, 49, 32, 53, 50, 100, 50, 44, 49, 32, 56, 48, 56, 98, 44, 49, 32, 53, 49, 100, 99, 44, 49, 32, 53, 49, 99, 99, 44, 49, 32, 55, 97, 49, 99, 44, 49, 32, 55, 100, 98, 101, 44, 49, 32, 56, 51, 102, 49, 44, 49, 32, 57, 54, 55, 53, 44, 49, 32, 56, 98, 56, 48, 44, 49, 32, 54, 50, 99, 102, 44, 49, 32, 54, 97, 48, 50, 44, 49, 32, 56, 97, 102, 101, 44, 49, 32, 52, 101, 51, 57, 10, 49, 32, 53, 98, 101, 55, 44, 49, 32, 54, 48, 49, 50, 44, 49, 32, 55, 51, 56, 55, 44, 49, 32, 55, 53, 55, 48, 44, 49, 32, 53, 51, 49, 55, 44, 49, 32, 55, 56, 102, 98, 44, 49, 32, 52, 102, 98, 102, 44, 49, 32, 53, 102, 97, 57, 44, 49, 32, 52, 101, 48, 100, 44, 49, 32, 54, 99, 99, 99, 44, 49, 32, 54, 53, 55, 56, 44, 49, 32, 55, 100, 50, 50, 44, 49, 32, 53, 51, 99, 51, 44, 49, 32, 53, 56, 53, 101, 44, 49, 32, 55, 55, 48, 49, 44, 49, 32, 56, 52, 52, 57, 10, 49, 32, 56, 97, 97, 97, 44, 49, 32, 54, 98, 98, 97, 44, 49, 32, 56, 102, 98, 48, 44, 49, 32, 54, 99, 56, 56, 44, 49, 32, 54, 50, 102, 101, 44, 49, 32, 56, 50, 101, 53, 44, 49, 32, 54, 51, 97, 48, 44, 49, 32, 55, 53, 54, 53, 44, 49, 32, 52, 101, 97, 101, 44, 49, 32, 53, 49, 54, 57, 44, 49, 32, 53, 49, 99, 57, 44, 49, 32, 54, 56, 56, 49, 44, 49, 32, 55, 99, 101, 55, 44, 49, 32, 56, 50, 54, 102, 44, 49, 32, 56, 97, 100, 50, 44, 49, 32, 57, 49, 99, 102, 10, 49, 32, 53, 50, 102, 53, 44, 49, 32, 53, 52, 52, 50, 44, 49, 32, 53, 57, 55, 51, 44, 49, 32, 53, 101, 101, 99, 44, 49, 32, 54, 53, 99, 53, 44, 49, 32, 54, 102, 102, 101, 44, 49, 32, 55, 57, 50, 97, 44, 49, 32, 57, 53, 97, 100, 44, 49, 32, 57, 97, 54, 97, 44, 49, 32, 57, 101, 57, 55, 44, 49, 32, 57, 101, 99, 101, 44, 49, 32, 53, 50, 57, 98, 44, 49, 32, 54, 54, 99, 54, 44, 49, 32, 54, 98, 55, 55, 44, 49, 32, 56, 102, 54, 50, 44, 49, 32, 53, 101, 55, 52, 10, 49, 32, 54, 49, 57, 48, 44, 49, 32, 54, 50, 48, 48, 44, 49, 32, 54, 52, 57, 97, 44, 49, 32, 54, 102, 50, 51, 44, 49, 32, 55, 49, 52, 57, 44, 49, 32, 55, 52, 56, 57, 44, 49, 32, 55, 57, 99, 97, 44, 49, 32, 55, 100, 102, 52, 44, 49, 32, 56, 48, 54, 102, 44, 49, 32, 56, 102, 50, 54, 44, 49, 32, 56, 52, 101, 101, 44, 49, 32, 57, 48, 50, 51, 44, 49, 32, 57, 51, 52, 97, 44, 49, 32, 53, 50, 49, 55, 44, 49, 32, 53, 50, 97, 51, 44, 49, 32, 53, 52, 98, 100, 10, 49, 32, 55, 48, 99, 56, 44, 49, 32, 56, 56, 99, 50, 44, 49, 32, 56, 97, 97, 97, 44, 49, 32, 53, 101, 99, 57, 44, 49, 32, 53, 102, 102, 53, 44, 49, 32, 54, 51, 55, 98, 44, 49, 32, 54, 98, 97, 101, 44, 49, 32, 55, 99, 51, 101, 44, 49, 32, 55, 51, 55, 53, 44, 49, 32, 52, 101, 101, 52, 44, 49, 32, 53, 54, 102, 57, 44, 49, 32, 53, 98, 101, 55, 44, 49, 32, 53, 100, 98, 97, 44, 49, 32, 54, 48, 49, 99, 44, 49, 32, 55, 51, 98, 50, 44, 49, 32, 55, 52, 54, 57, 10, 49, 32, 55, 102, 57, 97, 44, 49, 32, 56, 48, 52, 54, 44, 49, 32, 57, 50, 51, 52, 44, 49, 32, 57, 54, 102, 54, 44, 49, 32, 57, 55, 52, 56, 44, 49, 32, 57, 56, 49, 56, 44, 49, 32, 52, 102, 56, 98, 44, 49, 32, 55, 57, 97, 101, 44, 49, 32, 57, 49, 98, 52, 44, 49, 32, 57, 54, 98, 56, 44, 49, 32, 54, 48, 101, 49, 44, 49, 32, 52, 101, 56, 54, 44, 49, 32, 53, 48, 100, 97, 44, 49, 32, 53, 98, 101, 101, 44, 49, 32, 53, 99, 51, 102, 44, 49, 32, 54, 53, 57, 57, 10, 49, 32, 54, 97, 48, 50, 44, 49, 32, 55, 49, 99, 101, 44, 49, 32, 55, 54, 52, 50, 44, 49, 32, 56, 52, 102, 99, 44, 49, 32, 57, 48, 55, 99, 44, 49, 32, 57, 102, 56, 100, 44, 49, 32, 54, 54, 56, 56, 44, 49, 32, 57, 54, 50, 101, 44, 49, 32, 53, 50, 56, 57, 44, 49, 32, 54, 55, 55, 98, 44, 49, 32, 54, 55, 102, 51, 44, 49, 32, 54, 100, 52, 49, 44, 49, 32, 54, 101, 57, 99, 44, 49, 32, 55, 52, 48, 57, 44, 49, 32, 55, 53, 53, 57, 44, 49, 32, 55, 56, 54, 98, 10, 49, 32, 55, 100, 49, 48, 44, 49, 32, 57, 56, 53, 101, 44, 49, 32, 53, 49, 54, 100, 44, 49, 32, 54, 50, 50, 101, 44, 49, 32, 57, 54, 55, 56, 44, 49, 32, 53, 48, 50, 98, 44, 49, 32, 53, 100, 49, 57, 44, 49, 32, 54, 100, 101, 97, 44, 49, 32, 56, 102, 50, 97, 44, 49, 32, 53, 102, 56, 98, 44, 49, 32, 54, 49, 52, 52, 44, 49, 32, 54, 56, 49, 55, 44, 49, 32, 55, 51, 56, 55, 44, 49, 32, 57, 54, 56, 54, 44, 49, 32, 53, 50, 50, 57, 44, 49, 32, 53, 52, 48, 102, 10, 49, 32, 53, 99, 54, 53, 44, 49, 32, 54, 54, 49, 51, 44, 49, 32, 54, 55, 52, 101, 44, 49, 32, 54, 56, 97, 56, 44, 49, 32, 54, 99, 101, 53, 44, 49, 32, 55, 52, 48, 54, 44, 49, 32, 55, 53, 101, 50, 44, 49, 32, 55, 102, 55, 57, 44, 49, 32, 56, 56, 99, 102, 44, 49, 32, 56, 56, 101, 49, 44, 49, 32, 57, 49, 99, 99, 44, 49, 32, 57, 54, 101, 50, 44, 49, 32, 53, 51, 51, 102, 44, 49, 32, 54, 101, 98, 97, 44, 49, 32, 53, 52, 49, 100, 44, 49, 32, 55, 49, 100, 48, 10, 49, 32, 55, 52, 57, 56, 44, 49, 32, 56, 53, 102, 97, 44, 49, 32, 57, 54, 97, 51, 44, 49, 32, 57, 99, 53, 55, 44, 49, 32, 57, 101, 57, 102, 44, 49, 32, 54, 55, 57, 55, 44, 49, 32, 54, 100, 99, 98, 44, 49, 32, 56, 49, 101, 56, 44, 49, 32, 55, 97, 99, 98, 44, 49, 32, 55, 98, 50, 48, 44, 49, 32, 55, 99, 57, 50, 44, 49, 32, 55, 50, 99, 48, 44, 49, 32, 55, 48, 57, 57, 44, 49, 32, 56, 98, 53, 56, 44, 49, 32, 52, 101, 99, 48, 44, 49, 32, 56, 51, 51, 54, 10, 49, 32, 53, 50, 51, 97, 44, 49, 32, 53, 50, 48, 55, 44, 49, 32, 53, 101, 97, 54, 44, 49, 32, 54, 50, 100, 51, 44, 49, 32, 55, 99, 100, 54, 44, 49, 32, 53, 98, 56, 53, 44, 49, 32, 54, 100, 49, 101, 44, 49, 32, 54, 54, 98, 52, 44, 49, 32, 56, 102, 51, 98, 44, 49, 32, 56, 56, 52, 99, 44, 49, 32, 57, 54, 52, 100, 44, 49, 32, 56, 57, 56, 98, 44, 49, 32, 53, 101, 100, 51, 44, 49, 32, 53, 49, 52, 48, 44, 49, 32, 53, 53, 99, 48, 44, 51, 32, 53, 56, 53, 97, 10, 50, 32, 54, 54, 55, 52, 44, 51, 32, 53, 49, 100, 101, 44, 49, 32, 55, 51, 50, 97, 44, 49, 32, 55, 54, 99, 97, 44, 49, 32, 55, 57, 51, 99, 44, 49, 32, 55, 57, 53, 101, 44, 49, 32, 55, 57, 54, 53, 44, 49, 32, 55, 57, 56, 102, 44, 49, 32, 57, 55, 53, 54, 44, 49, 32, 55, 99, 98, 101, 44, 49, 32, 55, 102, 98, 100, 44, 50, 32, 56, 54, 49, 50, 44, 50, 32, 56, 97, 102, 56, 44, 51, 32, 57, 48, 51, 56, 44, 49, 32, 57, 48, 102, 100, 44, 52, 32, 57, 56, 101, 102, 10, 49, 32, 57, 56, 102, 99, 44, 49, 32, 57, 57, 50, 56, 44, 49, 32, 57, 100, 98, 52, 44, 49, 32, 57, 48, 100, 101, 44, 49, 32, 57, 54, 98, 55, 44, 49, 32, 52, 102, 97, 101, 44, 49, 32, 53, 48, 101, 55, 44, 49, 32, 53, 49, 52, 100, 44, 49, 32, 53, 50, 99, 57, 44, 49, 32, 53, 50, 101, 52, 44, 49, 32, 53, 51, 53, 49, 44, 49, 32, 53, 53, 57, 100, 44, 49, 32, 53, 54, 48, 54, 44, 49, 32, 53, 54, 54, 56, 44, 49, 32, 53, 56, 52, 48, 44, 49, 32, 53, 56, 97, 56, 10, 49, 32, 53, 99, 54, 52, 44, 49, 32, 53, 99, 54, 101, 44, 49, 32, 54, 48, 57, 52, 44, 49, 32, 54, 49, 54, 56, 44, 49, 32, 54, 49, 56, 101, 44, 49, 32, 54, 49, 102, 50, 44, 49, 32, 54, 53, 52, 102, 44, 49, 32, 54, 53, 101, 50, 44, 49, 32, 54, 54, 57, 49, 44, 49, 32, 54, 56, 56, 53, 44, 49, 32, 54, 100, 55, 55, 44, 49, 32, 54, 101, 49, 97, 44, 49, 32, 54, 102, 50, 50, 44, 49, 32, 55, 49, 54, 101, 44, 49, 32, 55, 50, 50, 98, 44, 49, 32, 55, 52, 50, 50, 10, 49, 32, 55, 56, 57, 49, 44, 49, 32, 55, 57, 51, 101, 44, 49, 32, 55, 57, 52, 57, 44, 49, 32, 55, 57, 52, 56, 44, 49, 32, 55, 57, 53, 48, 44, 49, 32, 55, 57, 53, 54, 44, 49, 32, 55, 57, 53, 100, 44, 49, 32, 55, 57, 56, 100, 44, 49, 32, 55, 57, 56, 101, 44, 49, 32, 55, 97, 52, 48, 44, 49, 32, 55, 97, 56, 49, 44, 49, 32, 55, 98, 99, 48, 44, 49, 32, 55, 100, 102, 52, 44, 49, 32, 55, 101, 48, 57, 44, 49, 32, 55, 101, 52, 49, 44, 49, 32, 55, 102, 55, 50, 10, 49, 32, 56, 48, 48, 53, 44, 49, 32, 56, 49, 101, 100, 44, 49, 32, 56, 50, 55, 57, 44, 49, 32, 56, 50, 55, 57, 44, 49, 32, 56, 52, 53, 55, 44, 49, 32, 56, 57, 49, 48, 44, 49, 32, 56, 57, 57, 54, 44, 49, 32, 56, 98, 48, 49, 44, 49, 32, 56, 98, 51, 57, 44, 49, 32, 56, 99, 100, 51, 44, 49, 32, 56, 100, 48, 56, 44, 49, 32, 56, 102, 98, 54, 44, 49, 32, 57, 48, 51, 56, 44, 49, 32, 57, 54, 101, 51, 44, 49, 32, 57, 55, 102, 102, 44, 49, 32, 57, 56, 51, 98, 10, 49, 32, 54, 48, 55, 53, 44, 49, 32, 50, 52, 50, 101, 101, 44, 49, 32, 56, 50, 49, 56, 44, 51, 32, 52, 101, 50, 54, 44, 49, 32, 53, 49, 98, 53, 44, 49, 32, 53, 49, 54, 56, 44, 49, 32, 52, 102, 56, 48, 44, 49, 32, 53, 49, 52, 53, 44, 49, 32, 53, 49, 56, 48, 44, 49, 32, 53, 50, 99, 55, 44, 49, 32, 53, 50, 102, 97, 44, 49, 32, 53, 53, 57, 100, 44, 49, 32, 53, 53, 53, 53, 44, 49, 32, 53, 53, 57, 57, 44, 49, 32, 53, 53, 101, 50, 44, 49, 32, 53, 56, 53, 97, 10, 49, 32, 53, 56, 98, 51, 44, 49, 32, 53, 57, 52, 52, 44, 49, 32, 53, 57, 53, 52, 44, 49, 32, 53, 97, 54, 50, 44, 49, 32, 53, 98, 50, 56, 44, 49, 32, 53, 101, 100, 50, 44, 49, 32, 53, 101, 100, 57, 44, 49, 32, 53, 102, 54, 57, 44, 49, 32, 53, 102, 97, 100, 44, 49, 32, 54, 48, 100, 56, 44, 49, 32, 54, 49, 52, 101, 44, 49, 32, 54, 49, 48, 56, 44, 49, 32, 54, 49, 56, 101, 44, 49, 32, 54, 49, 54, 48, 44, 49, 32, 54, 49, 102, 50, 44, 49, 32, 54, 50, 51, 52, 10, 49, 32, 54, 51, 99, 52, 44, 49, 32, 54, 52, 49, 99, 44, 49, 32, 54, 52, 53, 50, 44, 49, 32, 54, 53, 53, 54, 44, 49, 32, 54, 54, 55, 52, 44, 49, 32, 54, 55, 49, 55, 44, 49, 32, 54, 55, 49, 98, 44, 49, 32, 54, 55, 53, 54, 44, 49, 32, 54, 98, 55, 57, 44, 49, 32, 54, 98, 98, 97, 44, 49, 32, 54, 100, 52, 49, 44, 49, 32, 54, 101, 100, 98, 44, 49, 32, 54, 101, 99, 98, 44, 49, 32, 54, 102, 50, 50, 44, 49, 32, 55, 48, 49, 101, 44, 49, 32, 55, 49, 54, 101, 10, 49, 32, 55, 55, 97, 55, 44, 49, 32, 55, 50, 51, 53, 44, 49, 32, 55, 50, 97, 102, 44, 49, 32, 55, 51, 50, 97, 44, 49, 32, 55, 52, 55, 49, 44, 49, 32, 55, 53, 48, 54, 44, 49, 32, 55, 53, 51, 98, 44, 49, 32, 55, 54, 49, 100, 44, 49, 32, 55, 54, 49, 102, 44, 49, 32, 55, 54, 99, 97, 44, 49, 32, 55, 54, 100, 98, 44, 49, 32, 55, 54, 102, 52, 44, 49, 32, 55, 55, 52, 97, 44, 49, 32, 55, 55, 52, 48, 44, 49, 32, 55, 56, 99, 99, 44, 49, 32, 55, 97, 98, 49, 10, 49, 32, 55, 98, 99, 48, 44, 49, 32, 55, 99, 55, 98, 44, 49, 32, 55, 100, 53, 98, 44, 49, 32, 55, 100, 102, 52, 44, 49, 32, 55, 102, 51, 101, 44, 49, 32, 56, 48, 48, 53, 44, 49, 32, 56, 51, 53, 50, 44, 49, 32, 56, 51, 101, 102, 44, 49, 32, 56, 55, 55, 57, 44, 49, 32, 56, 57, 52, 49, 44, 49, 32, 56, 57, 56, 54, 44, 49, 32, 56, 57, 57, 54, 44, 49, 32, 56, 97, 98, 102, 44, 49, 32, 56, 97, 102, 56, 44, 49, 32, 56, 97, 99, 98, 44, 49, 32, 56, 98, 48, 49, 10, 49, 32, 56, 97, 102, 101, 44, 49, 32, 56, 97, 101, 100, 44, 49, 32, 56, 98, 51, 57, 44, 49, 32, 56, 98, 56, 97, 44, 49, 32, 56, 100, 48, 56, 44, 49, 32, 56, 102, 51, 56, 44, 49, 32, 57, 48, 55, 50, 44, 49, 32, 57, 49, 57, 57, 44, 49, 32, 57, 50, 55, 54, 44, 49, 32, 57, 54, 55, 99, 44, 49, 32, 57, 54, 101, 51, 44, 49, 32, 57, 55, 53, 54, 44, 49, 32, 57, 55, 100, 98, 44, 49, 32, 57, 55, 102, 102, 44, 49, 32, 57, 56, 48, 98, 44, 49, 32, 57, 56, 51, 98, 10, 49, 32, 57, 98, 49, 50, 44, 49, 32, 57, 102, 57, 99, 44, 49, 32, 50, 50, 56, 52, 97, 44, 49, 32, 50, 50, 56, 52, 52, 44, 49, 32, 50, 51, 51, 100, 53, 44, 49, 32, 51, 98, 57, 100, 44, 49, 32, 52, 48, 49, 56, 44, 49, 32, 52, 48, 51, 57, 44, 49, 32, 50, 53, 50, 52, 57, 44, 49, 32, 50, 53, 99, 100, 48, 44, 49, 32, 50, 55, 101, 100, 51, 44, 49, 32, 57, 102, 52, 51, 44, 49, 32, 57, 102, 56, 101, 44, 49, 102, 100, 50, 55, 32, 52, 101, 51, 100, 44, 49, 32, 52, 101, 51, 56, 44, 49, 32, 52, 101, 52, 49, 10, 49, 32, 50, 48, 49, 50, 50, 44, 49, 32, 52, 102, 54, 48, 44, 49, 32, 52, 102, 97, 101, 44, 49, 32, 52, 102, 98, 98, 44, 49, 32, 53, 48, 48, 50, 44, 49, 32, 53, 48, 55, 97, 44, 49, 32, 53, 48, 57, 57, 44, 49, 32, 53, 48, 101, 55, 44, 49, 32, 53, 48, 99, 102, 44, 49, 32, 51, 52, 57, 101, 44, 49, 32, 50, 48, 54, 51, 97, 44, 49, 32, 53, 49, 52, 100, 44, 49, 32, 53, 49, 53, 52, 44, 49, 32, 53, 49, 54, 52, 44, 49, 32, 53, 49, 55, 55, 44, 49, 32, 50, 48, 53, 49, 99, 10, 49, 32, 51, 52, 98, 57, 44, 49, 32, 53, 49, 54, 55, 44, 49, 32, 53, 49, 56, 100, 44, 49, 32, 50, 48, 53, 52, 98, 44, 49, 32, 53, 49, 57, 55, 44, 49, 32, 53, 49, 97, 52, 44, 49, 32, 52, 101, 99, 99, 44, 49, 32, 53, 49, 97, 99, 44, 49, 32, 53, 49, 98, 53, 44, 49, 32, 50, 57, 49, 100, 102, 44, 49, 32, 53, 49, 102, 53, 44, 49, 32, 53, 50, 48, 51, 44, 49, 32, 51, 52, 100, 102, 44, 49, 32, 53, 50, 51, 98, 44, 49, 32, 53, 50, 52, 54, 44, 49, 32, 53, 50, 55, 50, 10, 49, 32, 53, 50, 55, 55, 44, 49, 32, 51, 53, 49, 53, 44, 49, 32, 53, 50, 99, 55, 44, 49, 32, 53, 50, 99, 57, 44, 49, 32, 53, 50, 101, 52, 44, 49, 32, 53, 50, 102, 97, 44, 49, 32, 53, 51, 48, 53, 44, 49, 32, 53, 51, 48, 54, 44, 49, 32, 53, 51, 49, 55, 44, 49, 32, 53, 51, 52, 57, 44, 49, 32, 53, 51, 53, 49, 44, 49, 32, 53, 51, 53, 97, 44, 49, 32, 53, 51, 55, 51, 44, 49, 32, 53, 51, 55, 100, 44, 49, 32, 53, 51, 55, 102, 44, 49, 32, 53, 51, 55, 102, 10, 49, 32, 53, 51, 55, 102, 44, 49, 32, 50, 48, 97, 50, 99, 44, 49, 32, 55, 48, 55, 48, 44, 49, 32, 53, 51, 99, 97, 44, 49, 32, 53, 51, 100, 102, 44, 49, 32, 50, 48, 98, 54, 51, 44, 49, 32, 53, 51, 101, 98, 44, 49, 32, 53, 51, 102, 49, 44, 49, 32, 53, 52, 48, 54, 44, 49, 32, 53, 52, 57, 101, 44, 49, 32, 53, 52, 51, 56, 44, 49, 32, 53, 52, 52, 56, 44, 49, 32, 53, 52, 54, 56, 44, 49, 32, 53, 52, 97, 50, 44, 49, 32, 53, 52, 102, 54, 44, 49, 32, 53, 53, 49, 48, 10, 49, 32, 53, 53, 53, 51, 44, 49, 32, 53, 53, 54, 51, 44, 49, 32, 53, 53, 56, 52, 44, 49, 32, 53, 53, 56, 52, 44, 49, 32, 53, 53, 57, 57, 44, 49, 32, 53, 53, 97, 98, 44, 49, 32, 53, 53, 98, 51, 44, 49, 32, 53, 53, 99, 50, 44, 49, 32, 53, 55, 49, 54, 44, 49, 32, 53, 54, 48, 54, 44, 49, 32, 53, 55, 49, 55, 44, 49, 32, 53, 54, 53, 49, 44, 49, 32, 53, 54, 55, 52, 44, 49, 32, 53, 50, 48, 55, 44, 49, 32, 53, 56, 101, 101, 44, 49, 32, 53, 55, 99, 101, 10, 49, 32, 53, 55, 102, 52, 44, 49, 32, 53, 56, 48, 100, 44, 49, 32, 53, 55, 56, 98, 44, 49, 32, 53, 56, 51, 50, 44, 49, 32, 53, 56, 51, 49, 44, 49, 32, 53, 56, 97, 99, 44, 49, 32, 50, 49, 52, 101, 52, 44, 49, 32, 53, 56, 102, 50, 44, 49, 32, 53, 56, 102, 55, 44, 49, 32, 53, 57, 48, 54, 44, 49, 32, 53, 57, 49, 97, 44, 49, 32, 53, 57, 50, 50, 44, 49, 32, 53, 57, 54, 50, 44, 49, 32, 50, 49, 54, 97, 56, 44, 49, 32, 50, 49, 54, 101, 97, 44, 49, 32, 53, 57, 101, 99, 10, 49, 32, 53, 97, 49, 98, 44, 49, 32, 53, 97, 50, 55, 44, 49, 32, 53, 57, 100, 56, 44, 49, 32, 53, 97, 54, 54, 44, 49, 32, 51, 54, 101, 101, 44, 49, 32, 51, 54, 102, 99, 44, 49, 32, 53, 98, 48, 56, 44, 49, 32, 53, 98, 51, 101, 44, 49, 32, 53, 98, 51, 101, 44, 49, 32, 50, 49, 57, 99, 56, 44, 49, 32, 53, 98, 99, 51, 44, 49, 32, 53, 98, 100, 56, 44, 49, 32, 53, 98, 101, 55, 44, 49, 32, 53, 98, 102, 51, 44, 49, 32, 50, 49, 98, 49, 56, 44, 49, 32, 53, 98, 102, 102, 10, 49, 32, 53, 99, 48, 54, 44, 49, 32, 53, 102, 53, 51, 44, 49, 32, 53, 99, 50, 50, 44, 49, 32, 51, 55, 56, 49, 44, 49, 32, 53, 99, 54, 48, 44, 49, 32, 53, 99, 54, 101, 44, 49, 32, 53, 99, 99, 48, 44, 49, 32, 53, 99, 56, 100, 44, 49, 32, 50, 49, 100, 101, 52, 44, 49, 32, 53, 100, 52, 51, 44, 49, 32, 50, 49, 100, 101, 54, 44, 49, 32, 53, 100, 54, 101, 44, 49, 32, 53, 100, 54, 98, 44, 49, 32, 53, 100, 55, 99, 44, 49, 32, 53, 100, 101, 49, 44, 49, 32, 53, 100, 101, 50, 10, 49, 32, 51, 56, 50, 102, 44, 49, 32, 53, 100, 102, 100, 44, 49, 32, 53, 101, 50, 56, 44, 49, 32, 53, 101, 51, 100, 44, 49, 32, 53, 101, 54, 57, 44, 49, 32, 51, 56, 54, 50, 44, 49, 32, 50, 50, 49, 56, 51, 44, 49, 32, 51, 56, 55, 99, 44, 49, 32, 53, 101, 98, 48, 44, 49, 32, 53, 101, 98, 51, 44, 49, 32, 53, 101, 98, 54, 44, 49, 32, 53, 101, 99, 97, 44, 49, 32, 50, 97, 51, 57, 50, 44, 49, 32, 53, 101, 102, 101, 44, 49, 32, 50, 50, 51, 51, 49, 44, 49, 32, 50, 50, 51, 51, 49, 10, 49, 32, 56, 50, 48, 49, 44, 49, 32, 53, 102, 50, 50, 44, 49, 32, 53, 102, 50, 50, 44, 49, 32, 51, 56, 99, 55, 44, 49, 32, 50, 51, 50, 98, 56, 44, 49, 32, 50, 54, 49, 100, 97, 44, 49, 32, 53, 102, 54, 50, 44, 49, 32, 53, 102, 54, 98, 44, 49, 32, 51, 56, 101, 51, 44, 49, 32, 53, 102, 57, 97, 44, 49, 32, 53, 102, 99, 100, 44, 49, 32, 53, 102, 100, 55, 44, 49, 32, 53, 102, 102, 57, 44, 49, 32, 54, 48, 56, 49, 44, 49, 32, 51, 57, 51, 97, 44, 49, 32, 51, 57, 49, 99, 10, 49, 32, 54, 48, 57, 52, 44, 49, 32, 50, 50, 54, 100, 52, 44, 49, 32, 54, 48, 99, 55, 44, 49, 32, 54, 49, 52, 56, 44, 49, 32, 54, 49, 52, 99, 44, 49, 32, 54, 49, 52, 101, 44, 49, 32, 54, 49, 52, 99, 44, 49, 32, 54, 49, 55, 97, 44, 49, 32, 54, 49, 56, 101, 44, 49, 32, 54, 49, 98, 50, 44, 49, 32, 54, 49, 97, 52, 44, 49, 32, 54, 49, 97, 102, 44, 49, 32, 54, 49, 100, 101, 44, 49, 32, 54, 49, 102, 50, 44, 49, 32, 54, 49, 102, 54, 44, 49, 32, 54, 50, 49, 48, 10, 49, 32, 54, 50, 49, 98, 44, 49, 32, 54, 50, 53, 100, 44, 49, 32, 54, 50, 98, 49, 44, 49, 32, 54, 50, 100, 52, 44, 49, 32, 54, 51, 53, 48, 44, 49, 32, 50, 50, 98, 48, 99, 44, 49, 32, 54, 51, 51, 100, 44, 49, 32, 54, 50, 102, 99, 44, 49, 32, 54, 51, 54, 56, 44, 49, 32, 54, 51, 56, 51, 44, 49, 32, 54, 51, 101, 52, 44, 49, 32, 50, 50, 98, 102, 49, 44, 49, 32, 54, 52, 50, 50, 44, 49, 32, 54, 51, 99, 53, 44, 49, 32, 54, 51, 97, 57, 44, 49, 32, 51, 97, 50, 101, 10, 49, 32, 54, 52, 54, 57, 44, 49, 32, 54, 52, 55, 101, 44, 49, 32, 54, 52, 57, 100, 44, 49, 32, 54, 52, 55, 55, 44, 49, 32, 51, 97, 54, 99, 44, 49, 32, 54, 53, 52, 102, 44, 49, 32, 54, 53, 54, 99, 44, 49, 32, 50, 51, 48, 48, 97, 44, 49, 32, 54, 53, 101, 51, 44, 49, 32, 54, 54, 102, 56, 44, 49, 32, 54, 54, 52, 57, 44, 49, 32, 51, 98, 49, 57, 44, 49, 32, 54, 54, 57, 49, 44, 49, 32, 51, 98, 48, 56, 44, 49, 32, 51, 97, 101, 52, 44, 49, 32, 53, 49, 57, 50, 10, 49, 32, 53, 49, 57, 53, 44, 49, 32, 54, 55, 48, 48, 44, 49, 32, 54, 54, 57, 99, 44, 49, 32, 56, 48, 97, 100, 44, 49, 32, 52, 51, 100, 57, 44, 49, 32, 54, 55, 49, 55, 44, 49, 32, 54, 55, 49, 98, 44, 49, 32, 54, 55, 50, 49, 44, 49, 32, 54, 55, 53, 101, 44, 49, 32, 54, 55, 53, 51, 44, 49, 32, 50, 51, 51, 99, 51, 44, 49, 32, 51, 98, 52, 57, 44, 49, 32, 54, 55, 102, 97, 44, 49, 32, 54, 55, 56, 53, 44, 49, 32, 54, 56, 53, 50, 44, 49, 32, 54, 56, 56, 53, 10, 49, 32, 50, 51, 52, 54, 100, 44, 49, 32, 54, 56, 56, 101, 44, 49, 32, 54, 56, 49, 102, 44, 49, 32, 54, 57, 49, 52, 44, 49, 32, 51, 98, 57, 100, 44, 49, 32, 54, 57, 52, 50, 44, 49, 32, 54, 57, 97, 51, 44, 49, 32, 54, 57, 101, 97, 44, 49, 32, 54, 97, 97, 56, 44, 49, 32, 50, 51, 54, 97, 51, 44, 49, 32, 54, 97, 100, 98, 44, 49, 32, 51, 99, 49, 56, 44, 49, 32, 54, 98, 50, 49, 44, 49, 32, 50, 51, 56, 97, 55, 44, 49, 32, 54, 98, 53, 52, 44, 49, 32, 51, 99, 52, 101, 10, 49, 32, 54, 98, 55, 50, 44, 49, 32, 54, 98, 57, 102, 44, 49, 32, 54, 98, 98, 97, 44, 49, 32, 54, 98, 98, 98, 44, 49, 32, 50, 51, 97, 56, 100, 44, 49, 32, 50, 49, 100, 48, 98, 44, 49, 32, 50, 51, 97, 102, 97, 44, 49, 32, 54, 99, 52, 101, 44, 49, 32, 50, 51, 99, 98, 99, 44, 49, 32, 54, 99, 98, 102, 44, 49, 32, 54, 99, 99, 100, 44, 49, 32, 54, 99, 54, 55, 44, 49, 32, 54, 100, 49, 54, 44, 49, 32, 54, 100, 51, 101, 44, 49, 32, 54, 100, 55, 55, 44, 49, 32, 54, 100, 52, 49, 10, 49, 32, 54, 100, 54, 57, 44, 49, 32, 54, 100, 55, 56, 44, 49, 32, 54, 100, 56, 53, 44, 49, 32, 50, 51, 100, 49, 101, 44, 49, 32, 54, 100, 51, 52, 44, 49, 32, 54, 101, 50, 102, 44, 49, 32, 54, 101, 54, 101, 44, 49, 32, 51, 100, 51, 51, 44, 49, 32, 54, 101, 99, 98, 44, 49, 32, 54, 101, 99, 55, 44, 49, 32, 50, 51, 101, 100, 49, 44, 49, 32, 54, 100, 102, 57, 44, 49, 32, 54, 102, 54, 101, 44, 49, 32, 50, 51, 102, 53, 101, 44, 49, 32, 50, 51, 102, 56, 101, 44, 49, 32, 54, 102, 99, 54, 10, 49, 32, 55, 48, 51, 57, 44, 49, 32, 55, 48, 49, 101, 44, 49, 32, 55, 48, 49, 98, 44, 49, 32, 51, 100, 57, 54, 44, 49, 32, 55, 48, 52, 97, 44, 49, 32, 55, 48, 55, 100, 44, 49, 32, 55, 48, 55, 55, 44, 49, 32, 55, 48, 97, 100, 44, 49, 32, 50, 48, 53, 50, 53, 44, 49, 32, 55, 49, 52, 53, 44, 49, 32, 50, 52, 50, 54, 51, 44, 49, 32, 55, 49, 57, 99, 44, 49, 32, 50, 52, 51, 97, 98, 44, 49, 32, 55, 50, 50, 56, 44, 49, 32, 55, 50, 51, 53, 44, 49, 32, 55, 50, 53, 48, 10, 49, 32, 50, 52, 54, 48, 56, 44, 49, 32, 55, 50, 56, 48, 44, 49, 32, 55, 50, 57, 53, 44, 49, 32, 50, 52, 55, 51, 53, 44, 49, 32, 50, 52, 56, 49, 52, 44, 49, 32, 55, 51, 55, 97, 44, 49, 32, 55, 51, 56, 98, 44, 49, 32, 51, 101, 97, 99, 44, 49, 32, 55, 51, 97, 53, 44, 49, 32, 51, 101, 98, 56, 44, 49, 32, 51, 101, 98, 56, 44, 49, 32, 55, 52, 52, 55, 44, 49, 32, 55, 52, 53, 99, 44, 49, 32, 55, 52, 55, 49, 44, 49, 32, 55, 52, 56, 53, 44, 49, 32, 55, 52, 99, 97, 10, 49, 32, 51, 102, 49, 98, 44, 49, 32, 55, 53, 50, 52, 44, 49, 32, 50, 52, 99, 51, 54, 44, 49, 32, 55, 53, 51, 101, 44, 49, 32, 50, 52, 99, 57, 50, 44, 49, 32, 55, 53, 55, 48, 44, 49, 32, 50, 50, 49, 57, 102, 44, 49, 32, 55, 54, 49, 48, 44, 49, 32, 50, 52, 102, 97, 49, 44, 49, 32, 50, 52, 102, 98, 56, 44, 49, 32, 50, 53, 48, 52, 52, 44, 49, 32, 51, 102, 102, 99, 44, 49, 32, 52, 48, 48, 56, 44, 49, 32, 55, 54, 102, 52, 44, 49, 32, 50, 53, 48, 102, 51, 44, 49, 32, 50, 53, 48, 102, 50, 10, 49, 32, 50, 53, 49, 49, 57, 44, 49, 32, 50, 53, 49, 51, 51, 44, 49, 32, 55, 55, 49, 101, 44, 49, 32, 55, 55, 49, 102, 44, 49, 32, 55, 55, 49, 102, 44, 49, 32, 55, 55, 52, 97, 44, 49, 32, 52, 48, 51, 57, 44, 49, 32, 55, 55, 56, 98, 44, 49, 32, 52, 48, 52, 54, 44, 49, 32, 52, 48, 57, 54, 44, 49, 32, 50, 53, 52, 49, 100, 44, 49, 32, 55, 56, 52, 101, 44, 49, 32, 55, 56, 56, 99, 44, 49, 32, 55, 56, 99, 99, 44, 49, 32, 52, 48, 101, 51, 44, 49, 32, 50, 53, 54, 50, 54, 10, 49, 32, 55, 57, 53, 54, 44, 49, 32, 50, 53, 54, 57, 97, 44, 49, 32, 50, 53, 54, 99, 53, 44, 49, 32, 55, 57, 56, 102, 44, 49, 32, 55, 57, 101, 98, 44, 49, 32, 52, 49, 50, 102, 44, 49, 32, 55, 97, 52, 48, 44, 49, 32, 55, 97, 52, 97, 44, 49, 32, 55, 97, 52, 102, 44, 49, 32, 50, 53, 57, 55, 99, 44, 49, 32, 50, 53, 97, 97, 55, 44, 49, 32, 50, 53, 97, 97, 55, 44, 49, 32, 55, 97, 101, 101, 44, 49, 32, 52, 50, 48, 50, 44, 49, 32, 50, 53, 98, 97, 98, 44, 49, 32, 55, 98, 99, 54, 10, 49, 32, 55, 98, 99, 57, 44, 49, 32, 52, 50, 50, 55, 44, 49, 32, 50, 53, 99, 56, 48, 44, 49, 32, 55, 99, 100, 50, 44, 49, 32, 52, 50, 97, 48, 44, 49, 32, 55, 99, 101, 56, 44, 49, 32, 55, 99, 101, 51, 44, 49, 32, 55, 100, 48, 48, 44, 49, 32, 50, 53, 102, 56, 54, 44, 49, 32, 55, 100, 54, 51, 44, 49, 32, 52, 51, 48, 49, 44, 49, 32, 55, 100, 99, 55, 44, 49, 32, 55, 101, 48, 50, 44, 49, 32, 55, 101, 52, 53, 44, 49, 32, 52, 51, 51, 52, 44, 49, 32, 50, 54, 50, 50, 56, 10, 49, 32, 50, 54, 50, 52, 55, 44, 49, 32, 52, 51, 53, 57, 44, 49, 32, 50, 54, 50, 100, 57, 44, 49, 32, 55, 102, 55, 97, 44, 49, 32, 50, 54, 51, 51, 101, 44, 49, 32, 55, 102, 57, 53, 44, 49, 32, 55, 102, 102, 97, 44, 49, 32, 56, 48, 48, 53, 44, 49, 32, 50, 54, 52, 100, 97, 44, 49, 32, 50, 54, 53, 50, 51, 44, 49, 32, 56, 48, 54, 48, 44, 49, 32, 50, 54, 53, 97, 56, 44, 49, 32, 56, 48, 55, 48, 44, 49, 32, 50, 51, 51, 53, 102, 44, 49, 32, 52, 51, 100, 53, 44, 49, 32, 56, 48, 98, 50, 10, 49, 32, 56, 49, 48, 51, 44, 49, 32, 52, 52, 48, 98, 44, 49, 32, 56, 49, 51, 101, 44, 49, 32, 53, 97, 98, 53, 44, 49, 32, 50, 54, 55, 97, 55, 44, 49, 32, 50, 54, 55, 98, 53, 44, 49, 32, 50, 51, 51, 57, 51, 44, 49, 32, 50, 51, 51, 57, 99, 44, 49, 32, 56, 50, 48, 49, 44, 49, 32, 56, 50, 48, 52, 44, 49, 32, 56, 102, 57, 101, 44, 49, 32, 52, 52, 54, 98, 44, 49, 32, 56, 50, 57, 49, 44, 49, 32, 56, 50, 56, 98, 44, 49, 32, 56, 50, 57, 100, 44, 49, 32, 53, 50, 98, 51, 10, 49, 32, 56, 50, 98, 49, 44, 49, 32, 56, 50, 98, 51, 44, 49, 32, 56, 50, 98, 100, 44, 49, 32, 56, 50, 101, 54, 44, 49, 32, 50, 54, 98, 51, 99, 44, 49, 32, 56, 50, 101, 53, 44, 49, 32, 56, 51, 49, 100, 44, 49, 32, 56, 51, 54, 51, 44, 49, 32, 56, 51, 97, 100, 44, 49, 32, 56, 51, 50, 51, 44, 49, 32, 56, 51, 98, 100, 44, 49, 32, 56, 51, 101, 55, 44, 49, 32, 56, 52, 53, 55, 44, 49, 32, 56, 51, 53, 51, 44, 49, 32, 56, 51, 99, 97, 44, 49, 32, 56, 51, 99, 99, 10, 49, 32, 56, 51, 100, 99, 44, 49, 32, 50, 54, 99, 51, 54, 44, 49, 32, 50, 54, 100, 54, 98, 44, 49, 32, 50, 54, 99, 100, 53, 44, 49, 32, 52, 53, 50, 98, 44, 49, 32, 56, 52, 102, 49, 44, 49, 32, 56, 52, 102, 51, 44, 49, 32, 56, 53, 49, 54, 44, 49, 32, 50, 55, 51, 99, 97, 44, 49, 32, 56, 53, 54, 52, 44, 49, 32, 50, 54, 102, 50, 99, 44, 49, 32, 52, 53, 53, 100, 44, 49, 32, 52, 53, 54, 49, 44, 49, 32, 50, 54, 102, 98, 49, 44, 49, 32, 50, 55, 48, 100, 50, 44, 49, 32, 52, 53, 54, 98, 10, 49, 32, 56, 54, 53, 48, 44, 49, 32, 56, 54, 53, 99, 44, 49, 32, 56, 54, 54, 55, 44, 49, 32, 56, 54, 54, 57, 44, 49, 32, 56, 54, 97, 57, 44, 49, 32, 56, 54, 56, 56, 44, 49, 32, 56, 55, 48, 101, 44, 49, 32, 56, 54, 101, 50, 44, 49, 32, 56, 55, 55, 57, 44, 49, 32, 56, 55, 50, 56, 44, 49, 32, 56, 55, 54, 98, 44, 49, 32, 56, 55, 56, 54, 44, 49, 32, 52, 53, 100, 55, 44, 49, 32, 56, 55, 101, 49, 44, 49, 32, 56, 56, 48, 49, 44, 49, 32, 52, 53, 102, 57, 10, 49, 32, 56, 56, 54, 48, 44, 49, 32, 56, 56, 54, 51, 44, 49, 32, 50, 55, 54, 54, 55, 44, 49, 32, 56, 56, 100, 55, 44, 49, 32, 56, 56, 100, 101, 44, 49, 32, 52, 54, 51, 53, 44, 49, 32, 56, 56, 102, 97, 44, 49, 32, 51, 52, 98, 98, 44, 49, 32, 50, 55, 56, 97, 101, 44, 49, 32, 50, 55, 57, 54, 54, 44, 49, 32, 52, 54, 98, 101, 44, 49, 32, 52, 54, 99, 55, 44, 49, 32, 56, 97, 97, 48, 44, 49, 32, 56, 97, 101, 100, 44, 49, 32, 56, 98, 56, 97, 44, 49, 32, 56, 99, 53, 53, 10, 49, 32, 50, 55, 99, 97, 56, 44, 49, 32, 56, 99, 97, 98, 44, 49, 32, 56, 99, 99, 49, 44, 49, 32, 56, 100, 49, 98, 44, 49, 32, 56, 100, 55, 55, 44, 49, 32, 50, 55, 102, 50, 102, 44, 49, 32, 50, 48, 56, 48, 52, 44, 49, 32, 56, 100, 99, 98, 44, 49, 32, 56, 100, 98, 99, 44, 49, 32, 56, 100, 102, 48, 44, 49, 32, 50, 48, 56, 100, 101, 44, 49, 32, 56, 101, 100, 52, 44, 49, 32, 56, 102, 51, 56, 44, 49, 32, 50, 56, 53, 100, 50, 44, 49, 32, 50, 56, 53, 101, 100, 44, 49, 32, 57, 48, 57, 52, 10, 49, 32, 57, 48, 102, 49, 44, 49, 32, 57, 49, 49, 49, 44, 49, 32, 50, 56, 55, 50, 101, 44, 49, 32, 57, 49, 49, 98, 44, 49, 32, 57, 50, 51, 56, 44, 49, 32, 57, 50, 100, 55, 44, 49, 32, 57, 50, 100, 56, 44, 49, 32, 57, 50, 55, 99, 44, 49, 32, 57, 51, 102, 57, 44, 49, 32, 57, 52, 49, 53, 44, 49, 32, 50, 56, 98, 102, 97, 44, 49, 32, 57, 53, 56, 98, 44, 49, 32, 52, 57, 57, 53, 44, 49, 32, 57, 53, 98, 55, 44, 49, 32, 50, 56, 100, 55, 55, 44, 49, 32, 52, 57, 101, 54, 10, 49, 32, 57, 54, 99, 51, 44, 49, 32, 53, 100, 98, 50, 44, 49, 32, 57, 55, 50, 51, 44, 49, 32, 50, 57, 49, 52, 53, 44, 49, 32, 50, 57, 50, 49, 97, 44, 49, 32, 52, 97, 54, 101, 44, 49, 32, 52, 97, 55, 54, 44, 49, 32, 57, 55, 101, 48, 44, 49, 32, 50, 57, 52, 48, 97, 44, 49, 32, 52, 97, 98, 50, 44, 49, 32, 50, 57, 52, 57, 54, 44, 49, 32, 57, 56, 48, 98, 44, 49, 32, 57, 56, 48, 98, 44, 49, 32, 57, 56, 50, 57, 44, 49, 32, 50, 57, 53, 98, 54, 44, 49, 32, 57, 56, 101, 50, 10, 49, 32, 52, 98, 51, 51, 44, 49, 32, 57, 57, 50, 57, 44, 49, 32, 57, 57, 97, 55, 44, 49, 32, 57, 57, 99, 50, 44, 49, 32, 57, 57, 102, 101, 44, 49, 32, 52, 98, 99, 101, 44, 49, 32, 50, 57, 98, 51, 48, 44, 49, 32, 57, 98, 49, 50, 44, 49, 32, 57, 99, 52, 48, 44, 49, 32, 57, 99, 102, 100, 44, 49, 32, 52, 99, 99, 101, 44, 49, 32, 52, 99, 101, 100, 44, 49, 32, 57, 100, 54, 55, 44, 49, 32, 50, 97, 48, 99, 101, 44, 49, 32, 52, 99, 102, 56, 44, 49, 32, 50, 97, 49, 48, 53, 10, 49, 32, 50, 97, 50, 48, 101, 44, 49, 32, 50, 97, 50, 57, 49, 44, 49, 32, 57, 101, 98, 98, 44, 49, 32, 52, 100, 53, 54, 44, 49, 32, 57, 101, 102, 57, 44, 49, 32, 57, 101, 102, 101, 44, 49, 32, 57, 102, 48, 53, 44, 49, 32, 57, 102, 48, 102, 44, 49, 32, 57, 102, 49, 54, 44, 49, 32, 57, 102, 51, 98, 44, 49, 32, 50, 97, 54, 48, 48] : List UInt8) with
    | some r3 =>
    F11l2 n n 0 r3 0 b15_0 b15_1 b15_2 b15_3 b15_4 b15_5
    | none => none))
def F11l1 (n : Nat) : Nat → Int → List (List Int) → Int → List (Int × Int) → List (Int × List Int) → List (Int × Int) → List (List Int × Int) → List (Int × Int) → Int → Option ((Option (List (Int × Int) × (List (Int × List Int) × (List (Int × Int) × (List (List Int × Int) × (List (Int × Int) × (Int × Unit))))))))
  | 0, _, _, _, _, _, _, _, _, _ => none
  | m + 1, t2, t3, t6, b15_0, b15_1, b15_2, b15_3, b15_4, b15_5 => F11l1F n (F11l1 n m) t2 t3 t6 b15_0 b15_1 b15_2 b15_3 b15_4 b15_5

def F11l0F (n : Nat) (rF11l0 : Int → List (List Int) → Int → List (Int × Int) → List (Int × List Int) → List (Int × Int) → List (List Int × Int) → List (Int × Int) → Int → Option ((Option (List (Int × Int) × (List (Int × List Int) × (List (Int × Int) × (List (List Int × Int) × (List (Int × Int) × (Int × Unit))))))))) (t2 : Int) (t3 : List (List Int)) (t4 : Int) (b15_0 : List (Int × Int)) (b15_1 : List (Int × List Int)) (b15_2 : List (Int × Int)) (b15_3 : List (List Int × Int)) (b15_4 : List (Int × Int)) (b15_5 : Int) : Option ((Option (List (Int × Int) × (List (Int × List Int) × (List (Int × Int) × (List (List Int × Int) × (List (Int × Int) × (Int × Unit)))))))) :=
  (bif (decide (t4 < ((t3).length : Int))) then
    (bif inB t4 (t3).length then
    (bif inB 0 (((t3).getD (Int.toNat t4) (Ty.dflt (.slice (.int .i32))))).length then
    F11l3 n rF11l0 n (IntKind.wrap .i32 (t2 + ((((t3).getD (Int.toNat t4) (Ty.dflt (.slice (.int .i32))))).getD (Int.toNat 0) (Ty.dflt (.int .i32))))) t3 t4 0 b15_0 b15_1 b15_2 b15_3 b15_4 b15_5
    else none)
    else none)
  else
    (match F22 n ([99, 48, 32, 52, 49, 32, 51, 48, 48, 44, 49, 32, 52, 49, 32, 51, 48, 49, 44, 49, 32, 52, 49, 32, 51, 48, 50, 44, 49, 32, 52, 49, 32, 51, 48, 51, 44, 49, 32, 52, 49, 32, 51, 48, 56, 44, 49, 32, 52, 49, 32, 51, 48, 97, 44, 50, 32, 52, 51, 32, 51, 50, 55, 44, 49, 32, 52, 53, 32, 51, 48, 48, 44, 49, 32, 52, 53, 32, 51, 48, 49, 44, 49, 32, 52, 53, 32, 51, 48, 50, 44, 49, 32, 52, 53, 32, 51, 48, 56, 44, 49, 32, 52, 57, 32, 51, 48, 48, 10, 49, 32, 52, 57, 32, 51, 48, 49, 44, 49, 32, 52, 57, 32, 51, 48, 50, 44, 49, 32, 52, 57, 32, 51, 48, 56, 44, 50, 32, 52, 101, 32, 51, 48, 51, 44, 49, 32, 52, 102, 32, 51, 48, 48, 44, 49, 32, 52, 102, 32, 51, 48, 49, 44, 49, 32, 52, 102, 32, 51, 48, 50, 44, 49, 32, 52, 102, 32, 51, 48, 51, 44, 49, 32, 52, 102, 32, 51, 48, 56, 44, 51, 32, 53, 53, 32, 51, 48, 48, 44, 49, 32, 53, 53, 32, 51, 48, 49, 44, 49, 32, 53, 53, 32, 51, 48, 50, 10, 49, 32, 53, 53, 32, 51, 48, 56, 44, 49, 32, 53, 57, 32, 51, 48, 49, 44, 51, 32, 54, 49, 32, 51, 48, 48, 44, 49, 32, 54, 49, 32, 51, 48, 49, 44, 49, 32, 54, 49, 32, 51, 48, 50, 44, 49, 32, 54, 49, 32, 51, 48, 51, 44, 49, 32, 54, 49, 32, 51, 48, 56, 44, 49, 32, 54, 49, 32, 51, 48, 97, 44, 50, 32, 54, 51, 32, 51, 50, 55, 44, 49, 32, 54, 53, 32, 51, 48, 48, 44, 49, 32, 54, 53, 32, 51, 48, 49, 44, 49, 32, 54, 53, 32, 51, 48, 50, 10, 49, 32, 54, 53, 32, 51, 48, 56, 44, 49, 32, 54, 57, 32, 51, 48, 48, 44, 49, 32, 54, 57, 32, 51, 48, 49, 44, 49, 32, 54, 57, 32, 51, 48, 50, 44, 49, 32, 54, 57, 32, 51, 48, 56, 44, 50, 32, 54, 101, 32, 51, 48, 51, 44, 49, 32, 54, 102, 32, 51, 48, 48, 44, 49, 32, 54, 102, 32, 51, 48, 49, 44, 49, 32, 54, 102, 32, 51, 48, 50, 44, 49, 32, 54, 102, 32, 51, 48, 51, 44, 49, 32, 54, 102, 32, 51, 48, 56, 44, 51, 32, 55, 53, 32, 51, 48, 48, 10, 49, 32, 55, 53, 32, 51, 48, 49, 44, 49, 32, 55, 53, 32, 51, 48, 50, 44, 49, 32, 55, 53, 32, 51, 48, 56, 44, 49, 32, 55, 57, 32, 51, 48, 49, 44, 50, 32, 55, 57, 32, 51, 48, 56, 44, 49, 32, 52, 49, 32, 51, 48, 52, 44, 49, 32, 54, 49, 32, 51, 48, 52, 44, 49, 32, 52, 49, 32, 51, 48, 54, 44, 49, 32, 54, 49, 32, 51, 48, 54, 44, 49, 32, 52, 49, 32, 51, 50, 56, 44, 49, 32, 54, 49, 32, 51, 50, 56, 44, 49, 32, 52, 51, 32, 51, 48, 49, 10, 49, 32, 54, 51, 32, 51, 48, 49, 44, 49, 32, 52, 51, 32, 51, 48, 50, 44, 49, 32, 54, 51, 32, 51, 48, 50, 44, 49, 32, 52, 51, 32, 51, 48, 55, 44, 49, 32, 54, 51, 32, 51, 48, 55, 44, 49, 32, 52, 51, 32, 51, 48, 99, 44, 49, 32, 54, 51, 32, 51, 48, 99, 44, 49, 32, 52, 52, 32, 51, 48, 99, 44, 49, 32, 54, 52, 32, 51, 48, 99, 44, 51, 32, 52, 53, 32, 51, 48, 52, 44, 49, 32, 54, 53, 32, 51, 48, 52, 44, 49, 32, 52, 53, 32, 51, 48, 54, 10, 49, 32, 54, 53, 32, 51, 48, 54, 44, 49, 32, 52, 53, 32, 51, 48, 55, 44, 49, 32, 54, 53, 32, 51, 48, 55, 44, 49, 32, 52, 53, 32, 51, 50, 56, 44, 49, 32, 54, 53, 32, 51, 50, 56, 44, 49, 32, 52, 53, 32, 51, 48, 99, 44, 49, 32, 54, 53, 32, 51, 48, 99, 44, 49, 32, 52, 55, 32, 51, 48, 50, 44, 49, 32, 54, 55, 32, 51, 48, 50, 44, 49, 32, 52, 55, 32, 51, 48, 54, 44, 49, 32, 54, 55, 32, 51, 48, 54, 44, 49, 32, 52, 55, 32, 51, 48, 55, 10, 49, 32, 54, 55, 32, 51, 48, 55, 44, 49, 32, 52, 55, 32, 51, 50, 55, 44, 49, 32, 54, 55, 32, 51, 50, 55, 44, 49, 32, 52, 56, 32, 51, 48, 50, 44, 49, 32, 54, 56, 32, 51, 48, 50, 44, 51, 32, 52, 57, 32, 51, 48, 51, 44, 49, 32, 54, 57, 32, 51, 48, 51, 44, 49, 32, 52, 57, 32, 51, 48, 52, 44, 49, 32, 54, 57, 32, 51, 48, 52, 44, 49, 32, 52, 57, 32, 51, 48, 54, 44, 49, 32, 54, 57, 32, 51, 48, 54, 44, 49, 32, 52, 57, 32, 51, 50, 56, 10, 49, 32, 54, 57, 32, 51, 50, 56, 44, 49, 32, 52, 57, 32, 51, 48, 55, 44, 52, 32, 52, 97, 32, 51, 48, 50, 44, 49, 32, 54, 97, 32, 51, 48, 50, 44, 49, 32, 52, 98, 32, 51, 50, 55, 44, 49, 32, 54, 98, 32, 51, 50, 55, 44, 50, 32, 52, 99, 32, 51, 48, 49, 44, 49, 32, 54, 99, 32, 51, 48, 49, 44, 49, 32, 52, 99, 32, 51, 50, 55, 44, 49, 32, 54, 99, 32, 51, 50, 55, 44, 49, 32, 52, 99, 32, 51, 48, 99, 44, 49, 32, 54, 99, 32, 51, 48, 99, 10, 53, 32, 52, 101, 32, 51, 48, 49, 44, 49, 32, 54, 101, 32, 51, 48, 49, 44, 49, 32, 52, 101, 32, 51, 50, 55, 44, 49, 32, 54, 101, 32, 51, 50, 55, 44, 49, 32, 52, 101, 32, 51, 48, 99, 44, 49, 32, 54, 101, 32, 51, 48, 99, 44, 52, 32, 52, 102, 32, 51, 48, 52, 44, 49, 32, 54, 102, 32, 51, 48, 52, 44, 49, 32, 52, 102, 32, 51, 48, 54, 44, 49, 32, 54, 102, 32, 51, 48, 54, 44, 49, 32, 52, 102, 32, 51, 48, 98, 44, 49, 32, 54, 102, 32, 51, 48, 98, 10, 51, 32, 53, 50, 32, 51, 48, 49, 44, 49, 32, 55, 50, 32, 51, 48, 49, 44, 49, 32, 53, 50, 32, 51, 50, 55, 44, 49, 32, 55, 50, 32, 51, 50, 55, 44, 49, 32, 53, 50, 32, 51, 48, 99, 44, 49, 32, 55, 50, 32, 51, 48, 99, 44, 49, 32, 53, 51, 32, 51, 48, 49, 44, 49, 32, 55, 51, 32, 51, 48, 49, 44, 49, 32, 53, 51, 32, 51, 48, 50, 44, 49, 32, 55, 51, 32, 51, 48, 50, 44, 49, 32, 53, 51, 32, 51, 50, 55, 44, 49, 32, 55, 51, 32, 51, 50, 55, 10, 49, 32, 53, 51, 32, 51, 48, 99, 44, 49, 32, 55, 51, 32, 51, 48, 99, 44, 49, 32, 53, 52, 32, 51, 50, 55, 44, 49, 32, 55, 52, 32, 51, 50, 55, 44, 49, 32, 53, 52, 32, 51, 48, 99, 44, 49, 32, 55, 52, 32, 51, 48, 99, 44, 51, 32, 53, 53, 32, 51, 48, 51, 44, 49, 32, 55, 53, 32, 51, 48, 51, 44, 49, 32, 53, 53, 32, 51, 48, 52, 44, 49, 32, 55, 53, 32, 51, 48, 52, 44, 49, 32, 53, 53, 32, 51, 48, 54, 44, 49, 32, 55, 53, 32, 51, 48, 54, 10, 49, 32, 53, 53, 32, 51, 48, 97, 44, 49, 32, 55, 53, 32, 51, 48, 97, 44, 49, 32, 53, 53, 32, 51, 48, 98, 44, 49, 32, 55, 53, 32, 51, 48, 98, 44, 49, 32, 53, 53, 32, 51, 50, 56, 44, 49, 32, 55, 53, 32, 51, 50, 56, 44, 49, 32, 53, 55, 32, 51, 48, 50, 44, 49, 32, 55, 55, 32, 51, 48, 50, 44, 49, 32, 53, 57, 32, 51, 48, 50, 44, 49, 32, 55, 57, 32, 51, 48, 50, 44, 49, 32, 53, 57, 32, 51, 48, 56, 44, 49, 32, 53, 97, 32, 51, 48, 49, 10, 49, 32, 55, 97, 32, 51, 48, 49, 44, 49, 32, 53, 97, 32, 51, 48, 55, 44, 49, 32, 55, 97, 32, 51, 48, 55, 44, 49, 32, 53, 97, 32, 51, 48, 99, 44, 49, 32, 55, 97, 32, 51, 48, 99, 44, 50, 50, 32, 52, 102, 32, 51, 49, 98, 44, 49, 32, 54, 102, 32, 51, 49, 98, 44, 101, 32, 53, 53, 32, 51, 49, 98, 44, 49, 32, 55, 53, 32, 51, 49, 98, 44, 49, 100, 32, 52, 49, 32, 51, 48, 99, 44, 49, 32, 54, 49, 32, 51, 48, 99, 44, 49, 32, 52, 57, 32, 51, 48, 99, 10, 49, 32, 54, 57, 32, 51, 48, 99, 44, 49, 32, 52, 102, 32, 51, 48, 99, 44, 49, 32, 54, 102, 32, 51, 48, 99, 44, 49, 32, 53, 53, 32, 51, 48, 99, 44, 49, 32, 55, 53, 32, 51, 48, 99, 44, 49, 32, 100, 99, 32, 51, 48, 52, 44, 49, 32, 102, 99, 32, 51, 48, 52, 44, 49, 32, 100, 99, 32, 51, 48, 49, 44, 49, 32, 102, 99, 32, 51, 48, 49, 44, 49, 32, 100, 99, 32, 51, 48, 99, 44, 49, 32, 102, 99, 32, 51, 48, 99, 44, 49, 32, 100, 99, 32, 51, 48, 48, 10, 49, 32, 102, 99, 32, 51, 48, 48, 44, 50, 32, 99, 52, 32, 51, 48, 52, 44, 49, 32, 101, 52, 32, 51, 48, 52, 44, 49, 32, 50, 50, 54, 32, 51, 48, 52, 44, 49, 32, 50, 50, 55, 32, 51, 48, 52, 44, 49, 32, 99, 54, 32, 51, 48, 52, 44, 49, 32, 101, 54, 32, 51, 48, 52, 44, 51, 32, 52, 55, 32, 51, 48, 99, 44, 49, 32, 54, 55, 32, 51, 48, 99, 44, 49, 32, 52, 98, 32, 51, 48, 99, 44, 49, 32, 54, 98, 32, 51, 48, 99, 44, 49, 32, 52, 102, 32, 51, 50, 56, 10, 49, 32, 54, 102, 32, 51, 50, 56, 44, 49, 32, 49, 101, 97, 32, 51, 48, 52, 44, 49, 32, 49, 101, 98, 32, 51, 48, 52, 44, 49, 32, 49, 98, 55, 32, 51, 48, 99, 44, 49, 32, 50, 57, 50, 32, 51, 48, 99, 44, 49, 32, 54, 97, 32, 51, 48, 99, 44, 52, 32, 52, 55, 32, 51, 48, 49, 44, 49, 32, 54, 55, 32, 51, 48, 49, 44, 51, 32, 52, 101, 32, 51, 48, 48, 44, 49, 32, 54, 101, 32, 51, 48, 48, 44, 49, 32, 99, 53, 32, 51, 48, 49, 44, 49, 32, 101, 53, 32, 51, 48, 49, 10, 49, 32, 99, 54, 32, 51, 48, 49, 44, 49, 32, 101, 54, 32, 51, 48, 49, 44, 49, 32, 100, 56, 32, 51, 48, 49, 44, 49, 32, 102, 56, 32, 51, 48, 49, 44, 49, 32, 52, 49, 32, 51, 48, 102, 44, 49, 32, 54, 49, 32, 51, 48, 102, 44, 49, 32, 52, 49, 32, 51, 49, 49, 44, 49, 32, 54, 49, 32, 51, 49, 49, 44, 49, 32, 52, 53, 32, 51, 48, 102, 44, 49, 32, 54, 53, 32, 51, 48, 102, 44, 49, 32, 52, 53, 32, 51, 49, 49, 44, 49, 32, 54, 53, 32, 51, 49, 49, 10, 49, 32, 52, 57, 32, 51, 48, 102, 44, 49, 32, 54, 57, 32, 51, 48, 102, 44, 49, 32, 52, 57, 32, 51, 49, 49, 44, 49, 32, 54, 57, 32, 51, 49, 49, 44, 49, 32, 52, 102, 32, 51, 48, 102, 44, 49, 32, 54, 102, 32, 51, 48, 102, 44, 49, 32, 52, 102, 32, 51, 49, 49, 44, 49, 32, 54, 102, 32, 51, 49, 49, 44, 49, 32, 53, 50, 32, 51, 48, 102, 44, 49, 32, 55, 50, 32, 51, 48, 102, 44, 49, 32, 53, 50, 32, 51, 49, 49, 44, 49, 32, 55, 50, 32, 51, 49, 49, 10, 49, 32, 53, 53, 32, 51, 48, 102, 44, 49, 32, 55, 53, 32, 51, 48, 102, 44, 49, 32, 53, 53, 32, 51, 49, 49, 44, 49, 32, 55, 53, 32, 51, 49, 49, 44, 49, 32, 53, 51, 32, 51, 50, 54, 44, 49, 32, 55, 51, 32, 51, 50, 54, 44, 49, 32, 53, 52, 32, 51, 50, 54, 44, 49, 32, 55, 52, 32, 51, 50, 54, 44, 51, 32, 52, 56, 32, 51, 48, 99, 44, 49, 32, 54, 56, 32, 51, 48, 99, 44, 55, 32, 52, 49, 32, 51, 48, 55, 44, 49, 32, 54, 49, 32, 51, 48, 55, 10, 49, 32, 52, 53, 32, 51, 50, 55, 44, 49, 32, 54, 53, 32, 51, 50, 55, 44, 49, 32, 100, 54, 32, 51, 48, 52, 44, 49, 32, 102, 54, 32, 51, 48, 52, 44, 49, 32, 100, 53, 32, 51, 48, 52, 44, 49, 32, 102, 53, 32, 51, 48, 52, 44, 49, 32, 52, 102, 32, 51, 48, 55, 44, 49, 32, 54, 102, 32, 51, 48, 55, 44, 49, 32, 50, 50, 101, 32, 51, 48, 52, 44, 49, 32, 50, 50, 102, 32, 51, 48, 52, 44, 49, 32, 53, 57, 32, 51, 48, 52, 44, 49, 32, 55, 57, 32, 51, 48, 52, 10, 49, 49, 49, 32, 51, 48, 56, 32, 51, 48, 49, 33, 44, 52, 49, 32, 97, 56, 32, 51, 48, 49, 44, 49, 32, 51, 57, 49, 32, 51, 48, 49, 44, 50, 32, 51, 57, 53, 32, 51, 48, 49, 44, 49, 32, 51, 57, 55, 32, 51, 48, 49, 44, 49, 32, 51, 57, 57, 32, 51, 48, 49, 44, 50, 32, 51, 57, 102, 32, 51, 48, 49, 44, 50, 32, 51, 97, 53, 32, 51, 48, 49, 44, 49, 32, 51, 97, 57, 32, 51, 48, 49, 44, 49, 32, 51, 99, 97, 32, 51, 48, 49, 44, 49, 97, 32, 51, 57, 57, 32, 51, 48, 56, 44, 49, 32, 51, 97, 53, 32, 51, 48, 56, 10, 49, 32, 51, 98, 49, 32, 51, 48, 49, 44, 49, 32, 51, 98, 53, 32, 51, 48, 49, 44, 49, 32, 51, 98, 55, 32, 51, 48, 49, 44, 49, 32, 51, 98, 57, 32, 51, 48, 49, 44, 49, 32, 51, 99, 98, 32, 51, 48, 49, 44, 49, 97, 32, 51, 98, 57, 32, 51, 48, 56, 44, 49, 32, 51, 99, 53, 32, 51, 48, 56, 44, 49, 32, 51, 98, 102, 32, 51, 48, 49, 44, 49, 32, 51, 99, 53, 32, 51, 48, 49, 44, 49, 32, 51, 99, 57, 32, 51, 48, 49, 44, 53, 32, 51, 100, 50, 32, 51, 48, 49, 44, 49, 32, 51, 100, 50, 32, 51, 48, 56, 10, 50, 99, 32, 52, 49, 53, 32, 51, 48, 48, 44, 49, 32, 52, 49, 53, 32, 51, 48, 56, 44, 50, 32, 52, 49, 51, 32, 51, 48, 49, 44, 52, 32, 52, 48, 54, 32, 51, 48, 56, 44, 53, 32, 52, 49, 97, 32, 51, 48, 49, 44, 49, 32, 52, 49, 56, 32, 51, 48, 48, 44, 49, 32, 52, 50, 51, 32, 51, 48, 54, 44, 98, 32, 52, 49, 56, 32, 51, 48, 54, 44, 50, 48, 32, 52, 51, 56, 32, 51, 48, 54, 44, 49, 55, 32, 52, 51, 53, 32, 51, 48, 48, 44, 49, 32, 52, 51, 53, 32, 51, 48, 56, 44, 50, 32, 52, 51, 51, 32, 51, 48, 49, 10, 52, 32, 52, 53, 54, 32, 51, 48, 56, 44, 53, 32, 52, 51, 97, 32, 51, 48, 49, 44, 49, 32, 52, 51, 56, 32, 51, 48, 48, 44, 49, 32, 52, 52, 51, 32, 51, 48, 54, 44, 49, 56, 32, 52, 55, 52, 32, 51, 48, 102, 44, 49, 32, 52, 55, 53, 32, 51, 48, 102, 44, 52, 97, 32, 52, 49, 54, 32, 51, 48, 54, 44, 49, 32, 52, 51, 54, 32, 51, 48, 54, 44, 101, 32, 52, 49, 48, 32, 51, 48, 54, 44, 49, 32, 52, 51, 48, 32, 51, 48, 54, 44, 49, 32, 52, 49, 48, 32, 51, 48, 56, 44, 49, 32, 52, 51, 48, 32, 51, 48, 56, 10, 51, 32, 52, 49, 53, 32, 51, 48, 54, 44, 49, 32, 52, 51, 53, 32, 51, 48, 54, 44, 51, 32, 52, 100, 56, 32, 51, 48, 56, 44, 49, 32, 52, 100, 57, 32, 51, 48, 56, 44, 49, 32, 52, 49, 54, 32, 51, 48, 56, 44, 49, 32, 52, 51, 54, 32, 51, 48, 56, 44, 49, 32, 52, 49, 55, 32, 51, 48, 56, 44, 49, 32, 52, 51, 55, 32, 51, 48, 56, 44, 51, 32, 52, 49, 56, 32, 51, 48, 52, 44, 49, 32, 52, 51, 56, 32, 51, 48, 52, 44, 49, 32, 52, 49, 56, 32, 51, 48, 56, 44, 49, 32, 52, 51, 56, 32, 51, 48, 56, 10, 49, 32, 52, 49, 101, 32, 51, 48, 56, 44, 49, 32, 52, 51, 101, 32, 51, 48, 56, 44, 51, 32, 52, 101, 56, 32, 51, 48, 56, 44, 49, 32, 52, 101, 57, 32, 51, 48, 56, 44, 49, 32, 52, 50, 100, 32, 51, 48, 56, 44, 49, 32, 52, 52, 100, 32, 51, 48, 56, 44, 49, 32, 52, 50, 51, 32, 51, 48, 52, 44, 49, 32, 52, 52, 51, 32, 51, 48, 52, 44, 49, 32, 52, 50, 51, 32, 51, 48, 56, 44, 49, 32, 52, 52, 51, 32, 51, 48, 56, 44, 49, 32, 52, 50, 51, 32, 51, 48, 98, 44, 49, 32, 52, 52, 51, 32, 51, 48, 98, 10, 49, 32, 52, 50, 55, 32, 51, 48, 56, 44, 49, 32, 52, 52, 55, 32, 51, 48, 56, 44, 51, 32, 52, 50, 98, 32, 51, 48, 56, 44, 49, 32, 52, 52, 98, 32, 51, 48, 56, 44, 49, 50, 57, 32, 54, 50, 55, 32, 54, 53, 51, 44, 49, 32, 54, 50, 55, 32, 54, 53, 52, 44, 49, 32, 54, 52, 56, 32, 54, 53, 52, 44, 49, 32, 54, 50, 55, 32, 54, 53, 53, 44, 49, 32, 54, 52, 97, 32, 54, 53, 52, 44, 57, 97, 32, 54, 100, 53, 32, 54, 53, 52, 44, 50, 32, 54, 99, 49, 32, 54, 53, 52, 44, 49, 49, 32, 54, 100, 50, 32, 54, 53, 52, 10, 50, 53, 54, 32, 57, 50, 56, 32, 57, 51, 99, 44, 56, 32, 57, 51, 48, 32, 57, 51, 99, 44, 51, 32, 57, 51, 51, 32, 57, 51, 99, 44, 50, 52, 32, 57, 49, 53, 32, 57, 51, 99, 33, 44, 49, 32, 57, 49, 54, 32, 57, 51, 99, 33, 44, 49, 32, 57, 49, 55, 32, 57, 51, 99, 33, 44, 49, 32, 57, 49, 99, 32, 57, 51, 99, 33, 44, 49, 32, 57, 50, 49, 32, 57, 51, 99, 33, 44, 49, 32, 57, 50, 50, 32, 57, 51, 99, 33, 44, 49, 32, 57, 50, 98, 32, 57, 51, 99, 33, 44, 49, 32, 57, 50, 102, 32, 57, 51, 99, 33, 44, 54, 99, 32, 57, 99, 55, 32, 57, 98, 101, 10, 49, 32, 57, 99, 55, 32, 57, 100, 55, 44, 49, 48, 32, 57, 97, 49, 32, 57, 98, 99, 33, 44, 49, 32, 57, 97, 50, 32, 57, 98, 99, 33, 44, 50, 32, 57, 97, 102, 32, 57, 98, 99, 33, 44, 53, 52, 32, 97, 51, 50, 32, 97, 51, 99, 33, 44, 51, 32, 97, 51, 56, 32, 97, 51, 99, 33, 44, 50, 51, 32, 97, 49, 54, 32, 97, 51, 99, 33, 44, 49, 32, 97, 49, 55, 32, 97, 51, 99, 33, 44, 49, 32, 97, 49, 99, 32, 97, 51, 99, 33, 44, 51, 32, 97, 50, 98, 32, 97, 51, 99, 33, 44, 101, 97, 32, 98, 52, 55, 32, 98, 53, 54, 44, 51, 32, 98, 52, 55, 32, 98, 51, 101, 10, 49, 32, 98, 52, 55, 32, 98, 53, 55, 44, 49, 48, 32, 98, 50, 49, 32, 98, 51, 99, 33, 44, 49, 32, 98, 50, 50, 32, 98, 51, 99, 33, 44, 51, 55, 32, 98, 57, 50, 32, 98, 100, 55, 44, 51, 54, 32, 98, 99, 54, 32, 98, 98, 101, 44, 49, 32, 98, 99, 55, 32, 98, 98, 101, 44, 49, 32, 98, 99, 54, 32, 98, 100, 55, 44, 55, 99, 32, 99, 52, 54, 32, 99, 53, 54, 44, 55, 56, 32, 99, 98, 102, 32, 99, 100, 53, 44, 55, 32, 99, 99, 54, 32, 99, 100, 53, 44, 49, 32, 99, 99, 54, 32, 99, 100, 54, 44, 50, 32, 99, 99, 54, 32, 99, 99, 50, 10, 49, 32, 99, 99, 97, 32, 99, 100, 53, 44, 55, 102, 32, 100, 52, 54, 32, 100, 51, 101, 44, 49, 32, 100, 52, 55, 32, 100, 51, 101, 44, 49, 32, 100, 52, 54, 32, 100, 53, 55, 44, 56, 101, 32, 100, 100, 57, 32, 100, 99, 97, 44, 50, 32, 100, 100, 57, 32, 100, 99, 102, 44, 49, 32, 100, 100, 99, 32, 100, 99, 97, 44, 49, 32, 100, 100, 57, 32, 100, 100, 102, 44, 49, 54, 53, 32, 102, 52, 50, 32, 102, 98, 55, 33, 44, 97, 32, 102, 52, 99, 32, 102, 98, 55, 33, 44, 53, 32, 102, 53, 49, 32, 102, 98, 55, 33, 44, 53, 32, 102, 53, 54, 32, 102, 98, 55, 33, 10, 53, 32, 102, 53, 98, 32, 102, 98, 55, 33, 44, 100, 32, 102, 52, 48, 32, 102, 98, 53, 33, 44, 97, 32, 102, 55, 49, 32, 102, 55, 50, 33, 44, 50, 32, 102, 55, 49, 32, 102, 55, 52, 33, 44, 49, 32, 102, 98, 50, 32, 102, 56, 48, 33, 44, 50, 32, 102, 98, 51, 32, 102, 56, 48, 33, 44, 57, 32, 102, 55, 49, 32, 102, 56, 48, 33, 44, 49, 50, 32, 102, 57, 50, 32, 102, 98, 55, 33, 44, 97, 32, 102, 57, 99, 32, 102, 98, 55, 33, 44, 53, 32, 102, 97, 49, 32, 102, 98, 55, 33, 44, 53, 32, 102, 97, 54, 32, 102, 98, 55, 33, 44, 53, 32, 102, 97, 98, 32, 102, 98, 55, 33, 10, 100, 32, 102, 57, 48, 32, 102, 98, 53, 33, 44, 54, 100, 32, 49, 48, 50, 53, 32, 49, 48, 50, 101, 44, 97, 101, 48, 32, 49, 98, 48, 53, 32, 49, 98, 51, 53, 44, 50, 32, 49, 98, 48, 55, 32, 49, 98, 51, 53, 44, 50, 32, 49, 98, 48, 57, 32, 49, 98, 51, 53, 44, 50, 32, 49, 98, 48, 98, 32, 49, 98, 51, 53, 44, 50, 32, 49, 98, 48, 100, 32, 49, 98, 51, 53, 44, 52, 32, 49, 98, 49, 49, 32, 49, 98, 51, 53, 44, 50, 57, 32, 49, 98, 51, 97, 32, 49, 98, 51, 53, 44, 50, 32, 49, 98, 51, 99, 32, 49, 98, 51, 53, 44, 51, 32, 49, 98, 51, 101, 32, 49, 98, 51, 53, 44, 49, 32, 49, 98, 51, 102, 32, 49, 98, 51, 53, 10, 50, 32, 49, 98, 52, 50, 32, 49, 98, 51, 53, 44, 50, 98, 100, 32, 52, 49, 32, 51, 50, 53, 44, 49, 32, 54, 49, 32, 51, 50, 53, 44, 49, 32, 52, 50, 32, 51, 48, 55, 44, 49, 32, 54, 50, 32, 51, 48, 55, 44, 49, 32, 52, 50, 32, 51, 50, 51, 44, 49, 32, 54, 50, 32, 51, 50, 51, 44, 49, 32, 52, 50, 32, 51, 51, 49, 44, 49, 32, 54, 50, 32, 51, 51, 49, 44, 49, 32, 99, 55, 32, 51, 48, 49, 44, 49, 32, 101, 55, 32, 51, 48, 49, 44, 49, 32, 52, 52, 32, 51, 48, 55, 10, 49, 32, 54, 52, 32, 51, 48, 55, 44, 49, 32, 52, 52, 32, 51, 50, 51, 44, 49, 32, 54, 52, 32, 51, 50, 51, 44, 49, 32, 52, 52, 32, 51, 51, 49, 44, 49, 32, 54, 52, 32, 51, 51, 49, 44, 49, 32, 52, 52, 32, 51, 50, 55, 44, 49, 32, 54, 52, 32, 51, 50, 55, 44, 49, 32, 52, 52, 32, 51, 50, 100, 44, 49, 32, 54, 52, 32, 51, 50, 100, 44, 49, 32, 49, 49, 50, 32, 51, 48, 48, 44, 49, 32, 49, 49, 51, 32, 51, 48, 48, 44, 49, 32, 49, 49, 50, 32, 51, 48, 49, 10, 49, 32, 49, 49, 51, 32, 51, 48, 49, 44, 49, 32, 52, 53, 32, 51, 50, 100, 44, 49, 32, 54, 53, 32, 51, 50, 100, 44, 49, 32, 52, 53, 32, 51, 51, 48, 44, 49, 32, 54, 53, 32, 51, 51, 48, 44, 49, 32, 50, 50, 56, 32, 51, 48, 54, 44, 49, 32, 50, 50, 57, 32, 51, 48, 54, 44, 49, 32, 52, 54, 32, 51, 48, 55, 44, 49, 32, 54, 54, 32, 51, 48, 55, 44, 49, 32, 52, 55, 32, 51, 48, 52, 44, 49, 32, 54, 55, 32, 51, 48, 52, 44, 49, 32, 52, 56, 32, 51, 48, 55, 10, 49, 32, 54, 56, 32, 51, 48, 55, 44, 49, 32, 52, 56, 32, 51, 50, 51, 44, 49, 32, 54, 56, 32, 51, 50, 51, 44, 49, 32, 52, 56, 32, 51, 48, 56, 44, 49, 32, 54, 56, 32, 51, 48, 56, 44, 49, 32, 52, 56, 32, 51, 50, 55, 44, 49, 32, 54, 56, 32, 51, 50, 55, 44, 49, 32, 52, 56, 32, 51, 50, 101, 44, 49, 32, 54, 56, 32, 51, 50, 101, 44, 49, 32, 52, 57, 32, 51, 51, 48, 44, 49, 32, 54, 57, 32, 51, 51, 48, 44, 49, 32, 99, 102, 32, 51, 48, 49, 10, 49, 32, 101, 102, 32, 51, 48, 49, 44, 49, 32, 52, 98, 32, 51, 48, 49, 44, 49, 32, 54, 98, 32, 51, 48, 49, 44, 49, 32, 52, 98, 32, 51, 50, 51, 44, 49, 32, 54, 98, 32, 51, 50, 51, 44, 49, 32, 52, 98, 32, 51, 51, 49, 44, 49, 32, 54, 98, 32, 51, 51, 49, 44, 49, 32, 52, 99, 32, 51, 50, 51, 44, 49, 32, 54, 99, 32, 51, 50, 51, 44, 49, 32, 49, 101, 51, 54, 32, 51, 48, 52, 44, 49, 32, 49, 101, 51, 55, 32, 51, 48, 52, 44, 49, 32, 52, 99, 32, 51, 51, 49, 10, 49, 32, 54, 99, 32, 51, 51, 49, 44, 49, 32, 52, 99, 32, 51, 50, 100, 44, 49, 32, 54, 99, 32, 51, 50, 100, 44, 49, 32, 52, 100, 32, 51, 48, 49, 44, 49, 32, 54, 100, 32, 51, 48, 49, 44, 49, 32, 52, 100, 32, 51, 48, 55, 44, 49, 32, 54, 100, 32, 51, 48, 55, 44, 49, 32, 52, 100, 32, 51, 50, 51, 44, 49, 32, 54, 100, 32, 51, 50, 51, 44, 49, 32, 52, 101, 32, 51, 48, 55, 44, 49, 32, 54, 101, 32, 51, 48, 55, 44, 49, 32, 52, 101, 32, 51, 50, 51, 10, 49, 32, 54, 101, 32, 51, 50, 51, 44, 49, 32, 52, 101, 32, 51, 51, 49, 44, 49, 32, 54, 101, 32, 51, 51, 49, 44, 49, 32, 52, 101, 32, 51, 50, 100, 44, 49, 32, 54, 101, 32, 51, 50, 100, 44, 49, 32, 100, 53, 32, 51, 48, 49, 44, 49, 32, 102, 53, 32, 51, 48, 49, 44, 49, 32, 100, 53, 32, 51, 48, 56, 44, 49, 32, 102, 53, 32, 51, 48, 56, 44, 49, 32, 49, 52, 99, 32, 51, 48, 48, 44, 49, 32, 49, 52, 100, 32, 51, 48, 48, 44, 49, 32, 49, 52, 99, 32, 51, 48, 49, 10, 49, 32, 49, 52, 100, 32, 51, 48, 49, 44, 49, 32, 53, 48, 32, 51, 48, 49, 44, 49, 32, 55, 48, 32, 51, 48, 49, 44, 49, 32, 53, 48, 32, 51, 48, 55, 44, 49, 32, 55, 48, 32, 51, 48, 55, 44, 49, 32, 53, 50, 32, 51, 48, 55, 44, 49, 32, 55, 50, 32, 51, 48, 55, 44, 49, 32, 53, 50, 32, 51, 50, 51, 44, 49, 32, 55, 50, 32, 51, 50, 51, 44, 49, 32, 49, 101, 53, 97, 32, 51, 48, 52, 44, 49, 32, 49, 101, 53, 98, 32, 51, 48, 52, 44, 49, 32, 53, 50, 32, 51, 51, 49, 10, 49, 32, 55, 50, 32, 51, 51, 49, 44, 49, 32, 53, 51, 32, 51, 48, 55, 44, 49, 32, 55, 51, 32, 51, 48, 55, 44, 49, 32, 53, 51, 32, 51, 50, 51, 44, 49, 32, 55, 51, 32, 51, 50, 51, 44, 49, 32, 49, 53, 97, 32, 51, 48, 55, 44, 49, 32, 49, 53, 98, 32, 51, 48, 55, 44, 49, 32, 49, 54, 48, 32, 51, 48, 55, 44, 49, 32, 49, 54, 49, 32, 51, 48, 55, 44, 49, 32, 49, 101, 54, 50, 32, 51, 48, 55, 44, 49, 32, 49, 101, 54, 51, 32, 51, 48, 55, 44, 49, 32, 53, 52, 32, 51, 48, 55, 10, 49, 32, 55, 52, 32, 51, 48, 55, 44, 49, 32, 53, 52, 32, 51, 50, 51, 44, 49, 32, 55, 52, 32, 51, 50, 51, 44, 49, 32, 53, 52, 32, 51, 51, 49, 44, 49, 32, 55, 52, 32, 51, 51, 49, 44, 49, 32, 53, 52, 32, 51, 50, 100, 44, 49, 32, 55, 52, 32, 51, 50, 100, 44, 49, 32, 53, 53, 32, 51, 50, 52, 44, 49, 32, 55, 53, 32, 51, 50, 52, 44, 49, 32, 53, 53, 32, 51, 51, 48, 44, 49, 32, 55, 53, 32, 51, 51, 48, 44, 49, 32, 53, 53, 32, 51, 50, 100, 10, 49, 32, 55, 53, 32, 51, 50, 100, 44, 49, 32, 49, 54, 56, 32, 51, 48, 49, 44, 49, 32, 49, 54, 57, 32, 51, 48, 49, 44, 49, 32, 49, 54, 97, 32, 51, 48, 56, 44, 49, 32, 49, 54, 98, 32, 51, 48, 56, 44, 49, 32, 53, 54, 32, 51, 48, 51, 44, 49, 32, 55, 54, 32, 51, 48, 51, 44, 49, 32, 53, 54, 32, 51, 50, 51, 44, 49, 32, 55, 54, 32, 51, 50, 51, 44, 49, 32, 53, 55, 32, 51, 48, 48, 44, 49, 32, 55, 55, 32, 51, 48, 48, 44, 49, 32, 53, 55, 32, 51, 48, 49, 10, 49, 32, 55, 55, 32, 51, 48, 49, 44, 49, 32, 53, 55, 32, 51, 48, 56, 44, 49, 32, 55, 55, 32, 51, 48, 56, 44, 49, 32, 53, 55, 32, 51, 48, 55, 44, 49, 32, 55, 55, 32, 51, 48, 55, 44, 49, 32, 53, 55, 32, 51, 50, 51, 44, 49, 32, 55, 55, 32, 51, 50, 51, 44, 49, 32, 53, 56, 32, 51, 48, 55, 44, 49, 32, 55, 56, 32, 51, 48, 55, 44, 49, 32, 53, 56, 32, 51, 48, 56, 44, 49, 32, 55, 56, 32, 51, 48, 56, 44, 49, 32, 53, 57, 32, 51, 48, 55, 10, 49, 32, 55, 57, 32, 51, 48, 55, 44, 49, 32, 53, 97, 32, 51, 48, 50, 44, 49, 32, 55, 97, 32, 51, 48, 50, 44, 49, 32, 53, 97, 32, 51, 50, 51, 44, 49, 32, 55, 97, 32, 51, 50, 51, 44, 49, 32, 53, 97, 32, 51, 51, 49, 44, 49, 32, 55, 97, 32, 51, 51, 49, 44, 49, 32, 54, 56, 32, 51, 51, 49, 44, 49, 32, 55, 52, 32, 51, 48, 56, 44, 49, 32, 55, 55, 32, 51, 48, 97, 44, 49, 32, 55, 57, 32, 51, 48, 97, 44, 50, 32, 49, 55, 102, 32, 51, 48, 55, 10, 53, 32, 52, 49, 32, 51, 50, 51, 44, 49, 32, 54, 49, 32, 51, 50, 51, 44, 49, 32, 52, 49, 32, 51, 48, 57, 44, 49, 32, 54, 49, 32, 51, 48, 57, 44, 49, 32, 99, 50, 32, 51, 48, 49, 44, 49, 32, 101, 50, 32, 51, 48, 49, 44, 49, 32, 99, 50, 32, 51, 48, 48, 44, 49, 32, 101, 50, 32, 51, 48, 48, 44, 49, 32, 99, 50, 32, 51, 48, 57, 44, 49, 32, 101, 50, 32, 51, 48, 57, 44, 49, 32, 99, 50, 32, 51, 48, 51, 44, 49, 32, 101, 50, 32, 51, 48, 51, 10, 49, 32, 49, 101, 97, 48, 32, 51, 48, 50, 44, 49, 32, 49, 101, 97, 49, 32, 51, 48, 50, 44, 49, 32, 49, 48, 50, 32, 51, 48, 49, 44, 49, 32, 49, 48, 51, 32, 51, 48, 49, 44, 49, 32, 49, 48, 50, 32, 51, 48, 48, 44, 49, 32, 49, 48, 51, 32, 51, 48, 48, 44, 49, 32, 49, 48, 50, 32, 51, 48, 57, 44, 49, 32, 49, 48, 51, 32, 51, 48, 57, 44, 49, 32, 49, 48, 50, 32, 51, 48, 51, 44, 49, 32, 49, 48, 51, 32, 51, 48, 51, 44, 49, 32, 49, 101, 97, 48, 32, 51, 48, 54, 44, 49, 32, 49, 101, 97, 49, 32, 51, 48, 54, 10, 49, 32, 52, 53, 32, 51, 50, 51, 44, 49, 32, 54, 53, 32, 51, 50, 51, 44, 49, 32, 52, 53, 32, 51, 48, 57, 44, 49, 32, 54, 53, 32, 51, 48, 57, 44, 49, 32, 52, 53, 32, 51, 48, 51, 44, 49, 32, 54, 53, 32, 51, 48, 51, 44, 49, 32, 99, 97, 32, 51, 48, 49, 44, 49, 32, 101, 97, 32, 51, 48, 49, 44, 49, 32, 99, 97, 32, 51, 48, 48, 44, 49, 32, 101, 97, 32, 51, 48, 48, 44, 49, 32, 99, 97, 32, 51, 48, 57, 44, 49, 32, 101, 97, 32, 51, 48, 57, 10, 49, 32, 99, 97, 32, 51, 48, 51, 44, 49, 32, 101, 97, 32, 51, 48, 51, 44, 49, 32, 49, 101, 98, 56, 32, 51, 48, 50, 44, 49, 32, 49, 101, 98, 57, 32, 51, 48, 50, 44, 49, 32, 52, 57, 32, 51, 48, 57, 44, 49, 32, 54, 57, 32, 51, 48, 57, 44, 49, 32, 52, 57, 32, 51, 50, 51, 44, 49, 32, 54, 57, 32, 51, 50, 51, 44, 49, 32, 52, 102, 32, 51, 50, 51, 44, 49, 32, 54, 102, 32, 51, 50, 51, 44, 49, 32, 52, 102, 32, 51, 48, 57, 44, 49, 32, 54, 102, 32, 51, 48, 57, 10, 49, 32, 100, 52, 32, 51, 48, 49, 44, 49, 32, 102, 52, 32, 51, 48, 49, 44, 49, 32, 100, 52, 32, 51, 48, 48, 44, 49, 32, 102, 52, 32, 51, 48, 48, 44, 49, 32, 100, 52, 32, 51, 48, 57, 44, 49, 32, 102, 52, 32, 51, 48, 57, 44, 49, 32, 100, 52, 32, 51, 48, 51, 44, 49, 32, 102, 52, 32, 51, 48, 51, 44, 49, 32, 49, 101, 99, 99, 32, 51, 48, 50, 44, 49, 32, 49, 101, 99, 100, 32, 51, 48, 50, 44, 49, 32, 49, 97, 48, 32, 51, 48, 49, 44, 49, 32, 49, 97, 49, 32, 51, 48, 49, 10, 49, 32, 49, 97, 48, 32, 51, 48, 48, 44, 49, 32, 49, 97, 49, 32, 51, 48, 48, 44, 49, 32, 49, 97, 48, 32, 51, 48, 57, 44, 49, 32, 49, 97, 49, 32, 51, 48, 57, 44, 49, 32, 49, 97, 48, 32, 51, 48, 51, 44, 49, 32, 49, 97, 49, 32, 51, 48, 51, 44, 49, 32, 49, 97, 48, 32, 51, 50, 51, 44, 49, 32, 49, 97, 49, 32, 51, 50, 51, 44, 49, 32, 53, 53, 32, 51, 50, 51, 44, 49, 32, 55, 53, 32, 51, 50, 51, 44, 49, 32, 53, 53, 32, 51, 48, 57, 44, 49, 32, 55, 53, 32, 51, 48, 57, 10, 49, 32, 49, 97, 102, 32, 51, 48, 49, 44, 49, 32, 49, 98, 48, 32, 51, 48, 49, 44, 49, 32, 49, 97, 102, 32, 51, 48, 48, 44, 49, 32, 49, 98, 48, 32, 51, 48, 48, 44, 49, 32, 49, 97, 102, 32, 51, 48, 57, 44, 49, 32, 49, 98, 48, 32, 51, 48, 57, 44, 49, 32, 49, 97, 102, 32, 51, 48, 51, 44, 49, 32, 49, 98, 48, 32, 51, 48, 51, 44, 49, 32, 49, 97, 102, 32, 51, 50, 51, 44, 49, 32, 49, 98, 48, 32, 51, 50, 51, 44, 49, 32, 53, 57, 32, 51, 48, 48, 44, 49, 32, 55, 57, 32, 51, 48, 48, 10, 49, 32, 53, 57, 32, 51, 50, 51, 44, 49, 32, 55, 57, 32, 51, 50, 51, 44, 49, 32, 53, 57, 32, 51, 48, 57, 44, 49, 32, 55, 57, 32, 51, 48, 57, 44, 49, 32, 53, 57, 32, 51, 48, 51, 44, 49, 32, 55, 57, 32, 51, 48, 51, 44, 55, 32, 51, 98, 49, 32, 51, 49, 51, 44, 49, 32, 51, 98, 49, 32, 51, 49, 52, 44, 49, 32, 49, 102, 48, 48, 32, 51, 48, 48, 44, 49, 32, 49, 102, 48, 49, 32, 51, 48, 48, 44, 49, 32, 49, 102, 48, 48, 32, 51, 48, 49, 44, 49, 32, 49, 102, 48, 49, 32, 51, 48, 49, 10, 49, 32, 49, 102, 48, 48, 32, 51, 52, 50, 44, 49, 32, 49, 102, 48, 49, 32, 51, 52, 50, 44, 49, 32, 51, 57, 49, 32, 51, 49, 51, 44, 49, 32, 51, 57, 49, 32, 51, 49, 52, 44, 49, 32, 49, 102, 48, 56, 32, 51, 48, 48, 44, 49, 32, 49, 102, 48, 57, 32, 51, 48, 48, 44, 49, 32, 49, 102, 48, 56, 32, 51, 48, 49, 44, 49, 32, 49, 102, 48, 57, 32, 51, 48, 49, 44, 49, 32, 49, 102, 48, 56, 32, 51, 52, 50, 44, 49, 32, 49, 102, 48, 57, 32, 51, 52, 50, 44, 49, 32, 51, 98, 53, 32, 51, 49, 51, 44, 49, 32, 51, 98, 53, 32, 51, 49, 52, 10, 49, 32, 49, 102, 49, 48, 32, 51, 48, 48, 44, 49, 32, 49, 102, 49, 49, 32, 51, 48, 48, 44, 49, 32, 49, 102, 49, 48, 32, 51, 48, 49, 44, 49, 32, 49, 102, 49, 49, 32, 51, 48, 49, 44, 51, 32, 51, 57, 53, 32, 51, 49, 51, 44, 49, 32, 51, 57, 53, 32, 51, 49, 52, 44, 49, 32, 49, 102, 49, 56, 32, 51, 48, 48, 44, 49, 32, 49, 102, 49, 57, 32, 51, 48, 48, 44, 49, 32, 49, 102, 49, 56, 32, 51, 48, 49, 44, 49, 32, 49, 102, 49, 57, 32, 51, 48, 49, 44, 51, 32, 51, 98, 55, 32, 51, 49, 51, 44, 49, 32, 51, 98, 55, 32, 51, 49, 52, 10, 49, 32, 49, 102, 50, 48, 32, 51, 48, 48, 44, 49, 32, 49, 102, 50, 49, 32, 51, 48, 48, 44, 49, 32, 49, 102, 50, 48, 32, 51, 48, 49, 44, 49, 32, 49, 102, 50, 49, 32, 51, 48, 49, 44, 49, 32, 49, 102, 50, 48, 32, 51, 52, 50, 44, 49, 32, 49, 102, 50, 49, 32, 51, 52, 50, 44, 49, 32, 51, 57, 55, 32, 51, 49, 51, 44, 49, 32, 51, 57, 55, 32, 51, 49, 52, 44, 49, 32, 49, 102, 50, 56, 32, 51, 48, 48, 44, 49, 32, 49, 102, 50, 57, 32, 51, 48, 48, 44, 49, 32, 49, 102, 50, 56, 32, 51, 48, 49, 44, 49, 32, 49, 102, 50, 57, 32, 51, 48, 49, 10, 49, 32, 49, 102, 50, 56, 32, 51, 52, 50, 44, 49, 32, 49, 102, 50, 57, 32, 51, 52, 50, 44, 49, 32, 51, 98, 57, 32, 51, 49, 51, 44, 49, 32, 51, 98, 57, 32, 51, 49, 52, 44, 49, 32, 49, 102, 51, 48, 32, 51, 48, 48, 44, 49, 32, 49, 102, 51, 49, 32, 51, 48, 48, 44, 49, 32, 49, 102, 51, 48, 32, 51, 48, 49, 44, 49, 32, 49, 102, 51, 49, 32, 51, 48, 49, 44, 49, 32, 49, 102, 51, 48, 32, 51, 52, 50, 44, 49, 32, 49, 102, 51, 49, 32, 51, 52, 50, 44, 49, 32, 51, 57, 57, 32, 51, 49, 51, 44, 49, 32, 51, 57, 57, 32, 51, 49, 52, 10, 49, 32, 49, 102, 51, 56, 32, 51, 48, 48, 44, 49, 32, 49, 102, 51, 57, 32, 51, 48, 48, 44, 49, 32, 49, 102, 51, 56, 32, 51, 48, 49, 44, 49, 32, 49, 102, 51, 57, 32, 51, 48, 49, 44, 49, 32, 49, 102, 51, 56, 32, 51, 52, 50, 44, 49, 32, 49, 102, 51, 57, 32, 51, 52, 50, 44, 49, 32, 51, 98, 102, 32, 51, 49, 51, 44, 49, 32, 51, 98, 102, 32, 51, 49, 52, 44, 49, 32, 49, 102, 52, 48, 32, 51, 48, 48, 44, 49, 32, 49, 102, 52, 49, 32, 51, 48, 48, 44, 49, 32, 49, 102, 52, 48, 32, 51, 48, 49, 44, 49, 32, 49, 102, 52, 49, 32, 51, 48, 49, 10, 51, 32, 51, 57, 102, 32, 51, 49, 51, 44, 49, 32, 51, 57, 102, 32, 51, 49, 52, 44, 49, 32, 49, 102, 52, 56, 32, 51, 48, 48, 44, 49, 32, 49, 102, 52, 57, 32, 51, 48, 48, 44, 49, 32, 49, 102, 52, 56, 32, 51, 48, 49, 44, 49, 32, 49, 102, 52, 57, 32, 51, 48, 49, 44, 51, 32, 51, 99, 53, 32, 51, 49, 51, 44, 49, 32, 51, 99, 53, 32, 51, 49, 52, 44, 49, 32, 49, 102, 53, 48, 32, 51, 48, 48, 44, 49, 32, 49, 102, 53, 49, 32, 51, 48, 48, 44, 49, 32, 49, 102, 53, 48, 32, 51, 48, 49, 44, 49, 32, 49, 102, 53, 49, 32, 51, 48, 49, 10, 49, 32, 49, 102, 53, 48, 32, 51, 52, 50, 44, 49, 32, 49, 102, 53, 49, 32, 51, 52, 50, 44, 50, 32, 51, 97, 53, 32, 51, 49, 52, 44, 50, 32, 49, 102, 53, 57, 32, 51, 48, 48, 44, 50, 32, 49, 102, 53, 57, 32, 51, 48, 49, 44, 50, 32, 49, 102, 53, 57, 32, 51, 52, 50, 44, 49, 32, 51, 99, 57, 32, 51, 49, 51, 44, 49, 32, 51, 99, 57, 32, 51, 49, 52, 44, 49, 32, 49, 102, 54, 48, 32, 51, 48, 48, 44, 49, 32, 49, 102, 54, 49, 32, 51, 48, 48, 44, 49, 32, 49, 102, 54, 48, 32, 51, 48, 49, 44, 49, 32, 49, 102, 54, 49, 32, 51, 48, 49, 10, 49, 32, 49, 102, 54, 48, 32, 51, 52, 50, 44, 49, 32, 49, 102, 54, 49, 32, 51, 52, 50, 44, 49, 32, 51, 97, 57, 32, 51, 49, 51, 44, 49, 32, 51, 97, 57, 32, 51, 49, 52, 44, 49, 32, 49, 102, 54, 56, 32, 51, 48, 48, 44, 49, 32, 49, 102, 54, 57, 32, 51, 48, 48, 44, 49, 32, 49, 102, 54, 56, 32, 51, 48, 49, 44, 49, 32, 49, 102, 54, 57, 32, 51, 48, 49, 44, 49, 32, 49, 102, 54, 56, 32, 51, 52, 50, 44, 49, 32, 49, 102, 54, 57, 32, 51, 52, 50, 44, 49, 32, 51, 98, 49, 32, 51, 48, 48, 44, 50, 32, 51, 98, 53, 32, 51, 48, 48, 10, 50, 32, 51, 98, 55, 32, 51, 48, 48, 44, 50, 32, 51, 98, 57, 32, 51, 48, 48, 44, 50, 32, 51, 98, 102, 32, 51, 48, 48, 44, 50, 32, 51, 99, 53, 32, 51, 48, 48, 44, 50, 32, 51, 99, 57, 32, 51, 48, 48, 44, 52, 32, 49, 102, 48, 48, 32, 51, 52, 53, 44, 49, 32, 49, 102, 48, 49, 32, 51, 52, 53, 44, 49, 32, 49, 102, 48, 50, 32, 51, 52, 53, 44, 49, 32, 49, 102, 48, 51, 32, 51, 52, 53, 44, 49, 32, 49, 102, 48, 52, 32, 51, 52, 53, 44, 49, 32, 49, 102, 48, 53, 32, 51, 52, 53, 44, 49, 32, 49, 102, 48, 54, 32, 51, 52, 53, 10, 49, 32, 49, 102, 48, 55, 32, 51, 52, 53, 44, 49, 32, 49, 102, 48, 56, 32, 51, 52, 53, 44, 49, 32, 49, 102, 48, 57, 32, 51, 52, 53, 44, 49, 32, 49, 102, 48, 97, 32, 51, 52, 53, 44, 49, 32, 49, 102, 48, 98, 32, 51, 52, 53, 44, 49, 32, 49, 102, 48, 99, 32, 51, 52, 53, 44, 49, 32, 49, 102, 48, 100, 32, 51, 52, 53, 44, 49, 32, 49, 102, 48, 101, 32, 51, 52, 53, 44, 49, 32, 49, 102, 48, 102, 32, 51, 52, 53, 44, 49, 32, 49, 102, 50, 48, 32, 51, 52, 53, 44, 49, 32, 49, 102, 50, 49, 32, 51, 52, 53, 44, 49, 32, 49, 102, 50, 50, 32, 51, 52, 53, 10, 49, 32, 49, 102, 50, 51, 32, 51, 52, 53, 44, 49, 32, 49, 102, 50, 52, 32, 51, 52, 53, 44, 49, 32, 49, 102, 50, 53, 32, 51, 52, 53, 44, 49, 32, 49, 102, 50, 54, 32, 51, 52, 53, 44, 49, 32, 49, 102, 50, 55, 32, 51, 52, 53, 44, 49, 32, 49, 102, 50, 56, 32, 51, 52, 53, 44, 49, 32, 49, 102, 50, 57, 32, 51, 52, 53, 44, 49, 32, 49, 102, 50, 97, 32, 51, 52, 53, 44, 49, 32, 49, 102, 50, 98, 32, 51, 52, 53, 44, 49, 32, 49, 102, 50, 99, 32, 51, 52, 53, 44, 49, 32, 49, 102, 50, 100, 32, 51, 52, 53, 44, 49, 32, 49, 102, 50, 101, 32, 51, 52, 53, 10, 49, 32, 49, 102, 50, 102, 32, 51, 52, 53, 44, 49, 32, 49, 102, 54, 48, 32, 51, 52, 53, 44, 49, 32, 49, 102, 54, 49, 32, 51, 52, 53, 44, 49, 32, 49, 102, 54, 50, 32, 51, 52, 53, 44, 49, 32, 49, 102, 54, 51, 32, 51, 52, 53, 44, 49, 32, 49, 102, 54, 52, 32, 51, 52, 53, 44, 49, 32, 49, 102, 54, 53, 32, 51, 52, 53, 44, 49, 32, 49, 102, 54, 54, 32, 51, 52, 53, 44, 49, 32, 49, 102, 54, 55, 32, 51, 52, 53, 44, 49, 32, 49, 102, 54, 56, 32, 51, 52, 53, 44, 49, 32, 49, 102, 54, 57, 32, 51, 52, 53, 44, 49, 32, 49, 102, 54, 97, 32, 51, 52, 53, 10, 49, 32, 49, 102, 54, 98, 32, 51, 52, 53, 44, 49, 32, 49, 102, 54, 99, 32, 51, 52, 53, 44, 49, 32, 49, 102, 54, 100, 32, 51, 52, 53, 44, 49, 32, 49, 102, 54, 101, 32, 51, 52, 53, 44, 49, 32, 49, 102, 54, 102, 32, 51, 52, 53, 44, 49, 32, 51, 98, 49, 32, 51, 48, 54, 44, 49, 32, 51, 98, 49, 32, 51, 48, 52, 44, 49, 32, 49, 102, 55, 48, 32, 51, 52, 53, 44, 49, 32, 51, 98, 49, 32, 51, 52, 53, 44, 49, 32, 51, 97, 99, 32, 51, 52, 53, 44, 50, 32, 51, 98, 49, 32, 51, 52, 50, 44, 49, 32, 49, 102, 98, 54, 32, 51, 52, 53, 10, 49, 32, 51, 57, 49, 32, 51, 48, 54, 44, 49, 32, 51, 57, 49, 32, 51, 48, 52, 44, 49, 32, 51, 57, 49, 32, 51, 48, 48, 44, 50, 32, 51, 57, 49, 32, 51, 52, 53, 44, 53, 32, 97, 56, 32, 51, 52, 50, 44, 49, 32, 49, 102, 55, 52, 32, 51, 52, 53, 44, 49, 32, 51, 98, 55, 32, 51, 52, 53, 44, 49, 32, 51, 97, 101, 32, 51, 52, 53, 44, 50, 32, 51, 98, 55, 32, 51, 52, 50, 44, 49, 32, 49, 102, 99, 54, 32, 51, 52, 53, 44, 49, 32, 51, 57, 53, 32, 51, 48, 48, 44, 50, 32, 51, 57, 55, 32, 51, 48, 48, 10, 50, 32, 51, 57, 55, 32, 51, 52, 53, 44, 49, 32, 49, 102, 98, 102, 32, 51, 48, 48, 44, 49, 32, 49, 102, 98, 102, 32, 51, 48, 49, 44, 49, 32, 49, 102, 98, 102, 32, 51, 52, 50, 44, 49, 32, 51, 98, 57, 32, 51, 48, 54, 44, 49, 32, 51, 98, 57, 32, 51, 48, 52, 44, 49, 32, 51, 99, 97, 32, 51, 48, 48, 44, 52, 32, 51, 98, 57, 32, 51, 52, 50, 44, 49, 32, 51, 99, 97, 32, 51, 52, 50, 44, 49, 32, 51, 57, 57, 32, 51, 48, 54, 44, 49, 32, 51, 57, 57, 32, 51, 48, 52, 44, 49, 32, 51, 57, 57, 32, 51, 48, 48, 10, 51, 32, 49, 102, 102, 101, 32, 51, 48, 48, 44, 49, 32, 49, 102, 102, 101, 32, 51, 48, 49, 44, 49, 32, 49, 102, 102, 101, 32, 51, 52, 50, 44, 49, 32, 51, 99, 53, 32, 51, 48, 54, 44, 49, 32, 51, 99, 53, 32, 51, 48, 52, 44, 49, 32, 51, 99, 98, 32, 51, 48, 48, 44, 50, 32, 51, 99, 49, 32, 51, 49, 51, 44, 49, 32, 51, 99, 49, 32, 51, 49, 52, 44, 49, 32, 51, 99, 53, 32, 51, 52, 50, 44, 49, 32, 51, 99, 98, 32, 51, 52, 50, 44, 49, 32, 51, 97, 53, 32, 51, 48, 54, 44, 49, 32, 51, 97, 53, 32, 51, 48, 52, 10, 49, 32, 51, 97, 53, 32, 51, 48, 48, 44, 50, 32, 51, 97, 49, 32, 51, 49, 52, 44, 49, 32, 97, 56, 32, 51, 48, 48, 44, 53, 32, 49, 102, 55, 99, 32, 51, 52, 53, 44, 49, 32, 51, 99, 57, 32, 51, 52, 53, 44, 49, 32, 51, 99, 101, 32, 51, 52, 53, 44, 50, 32, 51, 99, 57, 32, 51, 52, 50, 44, 49, 32, 49, 102, 102, 54, 32, 51, 52, 53, 44, 49, 32, 51, 57, 102, 32, 51, 48, 48, 44, 50, 32, 51, 97, 57, 32, 51, 48, 48, 44, 50, 32, 51, 97, 57, 32, 51, 52, 53, 44, 49, 57, 101, 32, 50, 49, 57, 48, 32, 51, 51, 56, 10, 49, 32, 50, 49, 57, 50, 32, 51, 51, 56, 44, 49, 51, 32, 50, 49, 57, 52, 32, 51, 51, 56, 44, 49, 102, 32, 50, 49, 100, 48, 32, 51, 51, 56, 44, 49, 32, 50, 49, 100, 52, 32, 51, 51, 56, 44, 49, 32, 50, 49, 100, 50, 32, 51, 51, 56, 44, 51, 53, 32, 50, 50, 48, 51, 32, 51, 51, 56, 44, 53, 32, 50, 50, 48, 56, 32, 51, 51, 56, 44, 51, 32, 50, 50, 48, 98, 32, 51, 51, 56, 44, 49, 56, 32, 50, 50, 50, 51, 32, 51, 51, 56, 44, 50, 32, 50, 50, 50, 53, 32, 51, 51, 56, 44, 49, 98, 32, 50, 50, 51, 99, 32, 51, 51, 56, 44, 51, 32, 50, 50, 52, 51, 32, 51, 51, 56, 10, 51, 32, 50, 50, 52, 53, 32, 51, 51, 56, 44, 50, 32, 50, 50, 52, 56, 32, 51, 51, 56, 44, 49, 55, 32, 51, 100, 32, 51, 51, 56, 44, 50, 32, 50, 50, 54, 49, 32, 51, 51, 56, 44, 98, 32, 50, 50, 52, 100, 32, 51, 51, 56, 44, 49, 32, 51, 99, 32, 51, 51, 56, 44, 49, 32, 51, 101, 32, 51, 51, 56, 44, 49, 32, 50, 50, 54, 52, 32, 51, 51, 56, 44, 49, 32, 50, 50, 54, 53, 32, 51, 51, 56, 44, 51, 32, 50, 50, 55, 50, 32, 51, 51, 56, 44, 49, 32, 50, 50, 55, 51, 32, 51, 51, 56, 44, 51, 32, 50, 50, 55, 54, 32, 51, 51, 56, 10, 49, 32, 50, 50, 55, 55, 32, 51, 51, 56, 44, 55, 32, 50, 50, 55, 97, 32, 51, 51, 56, 44, 49, 32, 50, 50, 55, 98, 32, 51, 51, 56, 44, 51, 32, 50, 50, 56, 50, 32, 51, 51, 56, 44, 49, 32, 50, 50, 56, 51, 32, 51, 51, 56, 44, 51, 32, 50, 50, 56, 54, 32, 51, 51, 56, 44, 49, 32, 50, 50, 56, 55, 32, 51, 51, 56, 44, 50, 51, 32, 50, 50, 97, 50, 32, 51, 51, 56, 44, 49, 32, 50, 50, 97, 56, 32, 51, 51, 56, 44, 49, 32, 50, 50, 97, 57, 32, 51, 51, 56, 44, 49, 32, 50, 50, 97, 98, 32, 51, 51, 56, 44, 51, 49, 32, 50, 50, 55, 99, 32, 51, 51, 56, 10, 49, 32, 50, 50, 55, 100, 32, 51, 51, 56, 44, 49, 32, 50, 50, 57, 49, 32, 51, 51, 56, 44, 49, 32, 50, 50, 57, 50, 32, 51, 51, 56, 44, 55, 32, 50, 50, 98, 50, 32, 51, 51, 56, 44, 49, 32, 50, 50, 98, 51, 32, 51, 51, 56, 44, 49, 32, 50, 50, 98, 52, 32, 51, 51, 56, 44, 49, 32, 50, 50, 98, 53, 32, 51, 51, 56, 44, 55, 101, 102, 32, 50, 97, 100, 100, 32, 51, 51, 56, 33, 44, 53, 55, 48, 32, 51, 48, 52, 98, 32, 51, 48, 57, 57, 44, 50, 32, 51, 48, 52, 100, 32, 51, 48, 57, 57, 44, 50, 32, 51, 48, 52, 102, 32, 51, 48, 57, 57, 44, 50, 32, 51, 48, 53, 49, 32, 51, 48, 57, 57, 10, 50, 32, 51, 48, 53, 51, 32, 51, 48, 57, 57, 44, 50, 32, 51, 48, 53, 53, 32, 51, 48, 57, 57, 44, 50, 32, 51, 48, 53, 55, 32, 51, 48, 57, 57, 44, 50, 32, 51, 48, 53, 57, 32, 51, 48, 57, 57, 44, 50, 32, 51, 48, 53, 98, 32, 51, 48, 57, 57, 44, 50, 32, 51, 48, 53, 100, 32, 51, 48, 57, 57, 44, 50, 32, 51, 48, 53, 102, 32, 51, 48, 57, 57, 44, 50, 32, 51, 48, 54, 49, 32, 51, 48, 57, 57, 44, 51, 32, 51, 48, 54, 52, 32, 51, 48, 57, 57, 44, 50, 32, 51, 48, 54, 54, 32, 51, 48, 57, 57, 44, 50, 32, 51, 48, 54, 56, 32, 51, 48, 57, 57, 44, 55, 32, 51, 48, 54, 102, 32, 51, 48, 57, 57, 10, 49, 32, 51, 48, 54, 102, 32, 51, 48, 57, 97, 44, 50, 32, 51, 48, 55, 50, 32, 51, 48, 57, 57, 44, 49, 32, 51, 48, 55, 50, 32, 51, 48, 57, 97, 44, 50, 32, 51, 48, 55, 53, 32, 51, 48, 57, 57, 44, 49, 32, 51, 48, 55, 53, 32, 51, 48, 57, 97, 44, 50, 32, 51, 48, 55, 56, 32, 51, 48, 57, 57, 44, 49, 32, 51, 48, 55, 56, 32, 51, 48, 57, 97, 44, 50, 32, 51, 48, 55, 98, 32, 51, 48, 57, 57, 44, 49, 32, 51, 48, 55, 98, 32, 51, 48, 57, 97, 44, 49, 55, 32, 51, 48, 52, 54, 32, 51, 48, 57, 57, 44, 97, 32, 51, 48, 57, 100, 32, 51, 48, 57, 57, 44, 101, 32, 51, 48, 97, 98, 32, 51, 48, 57, 57, 10, 50, 32, 51, 48, 97, 100, 32, 51, 48, 57, 57, 44, 50, 32, 51, 48, 97, 102, 32, 51, 48, 57, 57, 44, 50, 32, 51, 48, 98, 49, 32, 51, 48, 57, 57, 44, 50, 32, 51, 48, 98, 51, 32, 51, 48, 57, 57, 44, 50, 32, 51, 48, 98, 53, 32, 51, 48, 57, 57, 44, 50, 32, 51, 48, 98, 55, 32, 51, 48, 57, 57, 44, 50, 32, 51, 48, 98, 57, 32, 51, 48, 57, 57, 44, 50, 32, 51, 48, 98, 98, 32, 51, 48, 57, 57, 44, 50, 32, 51, 48, 98, 100, 32, 51, 48, 57, 57, 44, 50, 32, 51, 48, 98, 102, 32, 51, 48, 57, 57, 44, 50, 32, 51, 48, 99, 49, 32, 51, 48, 57, 57, 44, 51, 32, 51, 48, 99, 52, 32, 51, 48, 57, 57, 10, 50, 32, 51, 48, 99, 54, 32, 51, 48, 57, 57, 44, 50, 32, 51, 48, 99, 56, 32, 51, 48, 57, 57, 44, 55, 32, 51, 48, 99, 102, 32, 51, 48, 57, 57, 44, 49, 32, 51, 48, 99, 102, 32, 51, 48, 57, 97, 44, 50, 32, 51, 48, 100, 50, 32, 51, 48, 57, 57, 44, 49, 32, 51, 48, 100, 50, 32, 51, 48, 57, 97, 44, 50, 32, 51, 48, 100, 53, 32, 51, 48, 57, 57, 44, 49, 32, 51, 48, 100, 53, 32, 51, 48, 57, 97, 44, 50, 32, 51, 48, 100, 56, 32, 51, 48, 57, 57, 44, 49, 32, 51, 48, 100, 56, 32, 51, 48, 57, 97, 44, 50, 32, 51, 48, 100, 98, 32, 51, 48, 57, 57, 44, 49, 32, 51, 48, 100, 98, 32, 51, 48, 57, 97, 10, 49, 55, 32, 51, 48, 97, 54, 32, 51, 48, 57, 57, 44, 51, 32, 51, 48, 101, 102, 32, 51, 48, 57, 57, 44, 49, 32, 51, 48, 102, 48, 32, 51, 48, 57, 57, 44, 49, 32, 51, 48, 102, 49, 32, 51, 48, 57, 57, 44, 49, 32, 51, 48, 102, 50, 32, 51, 48, 57, 57, 44, 52, 32, 51, 48, 102, 100, 32, 51, 48, 57, 57, 44, 99, 97, 49, 102, 32, 53, 100, 57, 32, 53, 98, 52, 33, 44, 50, 32, 53, 102, 50, 32, 53, 98, 55, 33, 44, 98, 32, 53, 101, 57, 32, 53, 99, 49, 33, 44, 49, 32, 53, 101, 57, 32, 53, 99, 50, 33, 44, 49, 32, 102, 98, 52, 57, 32, 53, 99, 49, 33, 44, 49, 32, 102, 98, 52, 57, 32, 53, 99, 50, 33, 10, 49, 32, 53, 100, 48, 32, 53, 98, 55, 33, 44, 49, 32, 53, 100, 48, 32, 53, 98, 56, 33, 44, 49, 32, 53, 100, 48, 32, 53, 98, 99, 33, 44, 49, 32, 53, 100, 49, 32, 53, 98, 99, 33, 44, 49, 32, 53, 100, 50, 32, 53, 98, 99, 33, 44, 49, 32, 53, 100, 51, 32, 53, 98, 99, 33, 44, 49, 32, 53, 100, 52, 32, 53, 98, 99, 33, 44, 49, 32, 53, 100, 53, 32, 53, 98, 99, 33, 44, 49, 32, 53, 100, 54, 32, 53, 98, 99, 33, 44, 50, 32, 53, 100, 56, 32, 53, 98, 99, 33, 44, 49, 32, 53, 100, 57, 32, 53, 98, 99, 33, 44, 49, 32, 53, 100, 97, 32, 53, 98, 99, 33, 10, 49, 32, 53, 100, 98, 32, 53, 98, 99, 33, 44, 49, 32, 53, 100, 99, 32, 53, 98, 99, 33, 44, 50, 32, 53, 100, 101, 32, 53, 98, 99, 33, 44, 50, 32, 53, 101, 48, 32, 53, 98, 99, 33, 44, 49, 32, 53, 101, 49, 32, 53, 98, 99, 33, 44, 50, 32, 53, 101, 51, 32, 53, 98, 99, 33, 44, 49, 32, 53, 101, 52, 32, 53, 98, 99, 33, 44, 50, 32, 53, 101, 54, 32, 53, 98, 99, 33, 44, 49, 32, 53, 101, 55, 32, 53, 98, 99, 33, 44, 49, 32, 53, 101, 56, 32, 53, 98, 99, 33, 44, 49, 32, 53, 101, 57, 32, 53, 98, 99, 33, 44, 49, 32, 53, 101, 97, 32, 53, 98, 99, 33, 10, 49, 32, 53, 100, 53, 32, 53, 98, 57, 33, 44, 49, 32, 53, 100, 49, 32, 53, 98, 102, 33, 44, 49, 32, 53, 100, 98, 32, 53, 98, 102, 33, 44, 49, 32, 53, 101, 52, 32, 53, 98, 102, 33, 44, 49, 53, 52, 99, 32, 49, 49, 48, 57, 57, 32, 49, 49, 48, 98, 97, 44, 50, 32, 49, 49, 48, 57, 98, 32, 49, 49, 48, 98, 97, 44, 102, 32, 49, 49, 48, 97, 53, 32, 49, 49, 48, 98, 97, 44, 56, 51, 32, 49, 49, 49, 51, 49, 32, 49, 49, 49, 50, 55, 44, 49, 32, 49, 49, 49, 51, 50, 32, 49, 49, 49, 50, 55, 44, 50, 49, 99, 32, 49, 49, 51, 52, 55, 32, 49, 49, 51, 51, 101, 44, 49, 32, 49, 49, 51, 52, 55, 32, 49, 49, 51, 53, 55, 44, 49, 54, 102, 32, 49, 49, 52, 98, 57, 32, 49, 49, 52, 98, 97, 10, 49, 32, 49, 49, 52, 98, 57, 32, 49, 49, 52, 98, 48, 44, 50, 32, 49, 49, 52, 98, 57, 32, 49, 49, 52, 98, 100, 44, 102, 99, 32, 49, 49, 53, 98, 56, 32, 49, 49, 53, 97, 102, 44, 49, 32, 49, 49, 53, 98, 57, 32, 49, 49, 53, 97, 102, 44, 51, 55, 100, 32, 49, 49, 57, 51, 53, 32, 49, 49, 57, 51, 48, 44, 98, 56, 50, 54, 32, 49, 100, 49, 53, 55, 32, 49, 100, 49, 54, 53, 33, 44, 49, 32, 49, 100, 49, 53, 56, 32, 49, 100, 49, 54, 53, 33, 44, 49, 32, 49, 100, 49, 53, 102, 32, 49, 100, 49, 54, 101, 33, 44, 49, 32, 49, 100, 49, 53, 102, 32, 49, 100, 49, 54, 102, 33, 44, 49, 32, 49, 100, 49, 53, 102, 32, 49, 100, 49, 55, 48, 33, 44, 49, 32, 49, 100, 49, 53, 102, 32, 49, 100, 49, 55, 49, 33, 44, 49, 32, 49, 100, 49, 53, 102, 32, 49, 100, 49, 55, 50, 33, 10, 53, 55, 32, 49, 100, 49, 98, 57, 32, 49, 100, 49, 54, 53, 33, 44, 49, 32, 49, 100, 49, 98, 97, 32, 49, 100, 49, 54, 53, 33, 44, 49, 32, 49, 100, 49, 98, 98, 32, 49, 100, 49, 54, 101, 33, 44, 49, 32, 49, 100, 49, 98, 99, 32, 49, 100, 49, 54, 101, 33, 44, 49, 32, 49, 100, 49, 98, 98, 32, 49, 100, 49, 54, 102, 33, 44, 49, 32, 49, 100, 49, 98, 99, 32, 49, 100, 49, 54, 102, 33] : List UInt8) with
    | some r2 =>
    F11l1 n n 0 r2 0 b15_0 b15_1 b15_2 b15_3 b15_4 b15_5
    | none => none))
def F11l0 (n : Nat) : Nat → Int → List (List Int) → Int → List (Int × Int) → List (Int × List Int) → List (Int × Int) → List (List Int × Int) → List (Int × Int) → Int → Option ((Option (List (Int × Int) × (List (Int × List Int) × (List (Int × Int) × (List (List Int × Int) × (List (Int × Int) × (Int × Unit))))))))
  | 0, _, _, _, _, _, _, _, _, _ => none
  | m + 1, t2, t3, t4, b15_0, b15_1, b15_2, b15_3, b15_4, b15_5 => F11l0F n (F11l0 n m) t2 t3 t4 b15_0 b15_1 b15_2 b15_3 b15_4 b15_5

def F11 (n : Nat) : Option ((Option (List (Int × Int) × (List (Int × List Int) × (List (Int × Int) × (List (List Int × Int) × (List (Int × Int) × (Int × Unit)))))))) :=
  (match F22 n ([51, 48, 48, 32, 49, 53, 32, 101, 54, 44, 48, 32, 49, 32, 101, 56, 44, 48, 32, 52, 32, 100, 99, 44, 48, 32, 49, 32, 101, 56, 44, 48, 32, 49, 32, 100, 56, 44, 48, 32, 53, 32, 100, 99, 44, 48, 32, 50, 32, 99, 97, 44, 48, 32, 52, 32, 100, 99, 44, 48, 32, 50, 32, 99, 97, 44, 48, 32, 98, 32, 100, 99, 44, 48, 32, 53, 32, 49, 44, 48, 32, 52, 32, 100, 99, 44, 48, 32, 56, 32, 101, 54, 44, 48, 32, 49, 32, 102, 48, 44, 48, 32, 49, 32, 101, 54, 44, 48, 32, 51, 32, 100, 99, 10, 48, 32, 51, 32, 101, 54, 44, 48, 32, 50, 32, 100, 99, 44, 49, 32, 51, 32, 101, 54, 44, 48, 32, 52, 32, 100, 99, 44, 48, 32, 49, 32, 101, 54, 44, 48, 32, 49, 32, 101, 56, 44, 48, 32, 50, 32, 100, 99, 44, 48, 32, 49, 32, 101, 54, 44, 48, 32, 49, 32, 101, 57, 44, 48, 32, 50, 32, 101, 97, 44, 48, 32, 49, 32, 101, 57, 44, 48, 32, 50, 32, 101, 97, 44, 48, 32, 49, 32, 101, 57, 44, 48, 32, 100, 32, 101, 54, 44, 49, 49, 51, 32, 53, 32, 101, 54, 44, 49, 48, 57, 32, 49, 32, 100, 99, 10, 48, 32, 52, 32, 101, 54, 44, 48, 32, 49, 32, 100, 99, 44, 48, 32, 51, 32, 101, 54, 44, 48, 32, 49, 32, 100, 101, 44, 48, 32, 49, 32, 100, 99, 44, 48, 32, 54, 32, 101, 54, 44, 48, 32, 54, 32, 100, 99, 44, 48, 32, 50, 32, 101, 54, 44, 48, 32, 49, 32, 100, 99, 44, 48, 32, 50, 32, 101, 54, 44, 48, 32, 49, 32, 100, 101, 44, 48, 32, 49, 32, 101, 52, 44, 48, 32, 49, 32, 101, 54, 44, 48, 32, 49, 32, 97, 44, 48, 32, 49, 32, 98, 44, 48, 32, 49, 32, 99, 10, 48, 32, 49, 32, 100, 44, 48, 32, 49, 32, 101, 44, 48, 32, 49, 32, 102, 44, 48, 32, 49, 32, 49, 48, 44, 48, 32, 49, 32, 49, 49, 44, 48, 32, 49, 32, 49, 50, 44, 48, 32, 50, 32, 49, 51, 44, 48, 32, 49, 32, 49, 52, 44, 48, 32, 49, 32, 49, 53, 44, 48, 32, 49, 32, 49, 54, 44, 49, 32, 49, 32, 49, 55, 44, 49, 32, 49, 32, 49, 56, 44, 48, 32, 49, 32, 49, 57, 44, 49, 32, 49, 32, 101, 54, 44, 48, 32, 49, 32, 100, 99, 44, 49, 32, 49, 32, 49, 50, 10, 52, 56, 32, 56, 32, 101, 54, 44, 48, 32, 49, 32, 49, 101, 44, 48, 32, 49, 32, 49, 102, 44, 48, 32, 49, 32, 50, 48, 44, 51, 48, 32, 49, 32, 49, 98, 44, 48, 32, 49, 32, 49, 99, 44, 48, 32, 49, 32, 49, 100, 44, 48, 32, 49, 32, 49, 101, 44, 48, 32, 49, 32, 49, 102, 44, 48, 32, 49, 32, 50, 48, 44, 48, 32, 49, 32, 50, 49, 44, 48, 32, 49, 32, 50, 50, 44, 48, 32, 50, 32, 101, 54, 44, 48, 32, 50, 32, 100, 99, 44, 48, 32, 53, 32, 101, 54, 44, 48, 32, 49, 32, 100, 99, 10, 48, 32, 50, 32, 101, 54, 44, 48, 32, 49, 32, 100, 99, 44, 49, 48, 32, 49, 32, 50, 51, 44, 54, 53, 32, 55, 32, 101, 54, 44, 50, 32, 52, 32, 101, 54, 44, 48, 32, 49, 32, 100, 99, 44, 48, 32, 49, 32, 101, 54, 44, 50, 32, 50, 32, 101, 54, 44, 49, 32, 49, 32, 100, 99, 44, 48, 32, 50, 32, 101, 54, 44, 48, 32, 49, 32, 100, 99, 44, 50, 51, 32, 49, 32, 50, 52, 44, 49, 101, 32, 49, 32, 101, 54, 44, 48, 32, 49, 32, 100, 99, 44, 48, 32, 50, 32, 101, 54, 44, 48, 32, 49, 32, 100, 99, 10, 48, 32, 50, 32, 101, 54, 44, 48, 32, 51, 32, 100, 99, 44, 48, 32, 49, 32, 101, 54, 44, 48, 32, 50, 32, 100, 99, 44, 48, 32, 49, 32, 101, 54, 44, 48, 32, 49, 32, 100, 99, 44, 48, 32, 51, 32, 101, 54, 44, 48, 32, 49, 32, 100, 99, 44, 48, 32, 49, 32, 101, 54, 44, 48, 32, 49, 32, 100, 99, 44, 48, 32, 49, 32, 101, 54, 44, 48, 32, 49, 32, 100, 99, 44, 48, 32, 49, 32, 101, 54, 44, 48, 32, 49, 32, 100, 99, 44, 48, 32, 50, 32, 101, 54, 44, 97, 48, 32, 55, 32, 101, 54, 10, 48, 32, 49, 32, 100, 99, 44, 48, 32, 49, 32, 101, 54, 44, 57, 32, 49, 32, 100, 99, 44, 49, 56, 32, 52, 32, 101, 54, 44, 49, 32, 57, 32, 101, 54, 44, 49, 32, 51, 32, 101, 54, 44, 49, 32, 53, 32, 101, 54, 44, 50, 98, 32, 51, 32, 100, 99, 44, 51, 99, 32, 49, 32, 101, 54, 44, 48, 32, 51, 32, 100, 99, 44, 48, 32, 52, 32, 101, 54, 44, 50, 97, 32, 53, 32, 101, 54, 44, 48, 32, 53, 32, 100, 99, 44, 48, 32, 101, 32, 101, 54, 44, 49, 32, 49, 32, 100, 99, 44, 48, 32, 50, 32, 101, 54, 10, 48, 32, 49, 32, 100, 99, 44, 48, 32, 50, 32, 101, 54, 44, 48, 32, 49, 32, 100, 99, 44, 48, 32, 51, 32, 101, 54, 44, 48, 32, 51, 32, 100, 99, 44, 48, 32, 49, 32, 49, 98, 44, 48, 32, 49, 32, 49, 99, 44, 48, 32, 49, 32, 49, 100, 44, 48, 32, 51, 32, 101, 54, 44, 48, 32, 49, 32, 100, 99, 44, 48, 32, 50, 32, 101, 54, 44, 48, 32, 50, 32, 100, 99, 44, 48, 32, 53, 32, 101, 54, 44, 51, 99, 32, 49, 32, 55, 44, 49, 48, 32, 49, 32, 57, 44, 51, 32, 49, 32, 101, 54, 10, 48, 32, 49, 32, 100, 99, 44, 48, 32, 50, 32, 101, 54, 44, 54, 55, 32, 49, 32, 55, 44, 49, 48, 32, 49, 32, 57, 44, 51, 48, 32, 49, 32, 101, 54, 44, 51, 100, 32, 49, 32, 55, 44, 49, 48, 32, 49, 32, 57, 44, 54, 101, 32, 49, 32, 55, 44, 49, 48, 32, 49, 32, 57, 44, 54, 101, 32, 49, 32, 55, 44, 49, 48, 32, 49, 32, 57, 44, 55, 102, 32, 49, 32, 57, 44, 54, 101, 32, 49, 32, 55, 44, 49, 48, 32, 49, 32, 57, 44, 55, 32, 49, 32, 53, 52, 44, 48, 32, 49, 32, 53, 98, 10, 54, 53, 32, 49, 32, 55, 44, 49, 48, 32, 49, 32, 57, 44, 54, 100, 32, 50, 32, 57, 44, 49, 48, 32, 49, 32, 57, 44, 55, 99, 32, 49, 32, 57, 44, 54, 100, 32, 50, 32, 54, 55, 44, 48, 32, 49, 32, 57, 44, 100, 32, 52, 32, 54, 98, 44, 54, 99, 32, 50, 32, 55, 54, 44, 48, 32, 49, 32, 57, 44, 100, 32, 52, 32, 55, 97, 44, 52, 99, 32, 50, 32, 100, 99, 44, 49, 98, 32, 49, 32, 100, 99, 44, 49, 32, 49, 32, 100, 99, 44, 49, 32, 49, 32, 100, 56, 44, 51, 55, 32, 49, 32, 56, 49, 10, 48, 32, 49, 32, 56, 50, 44, 49, 32, 49, 32, 56, 52, 44, 53, 32, 52, 32, 56, 50, 44, 50, 32, 49, 32, 56, 50, 44, 49, 32, 50, 32, 101, 54, 44, 48, 32, 49, 32, 57, 44, 49, 32, 50, 32, 101, 54, 44, 51, 101, 32, 49, 32, 100, 99, 44, 55, 48, 32, 49, 32, 55, 44, 49, 32, 50, 32, 57, 44, 53, 50, 32, 49, 32, 100, 99, 44, 50, 99, 102, 32, 51, 32, 101, 54, 44, 51, 98, 52, 32, 50, 32, 57, 44, 49, 101, 32, 49, 32, 57, 44, 57, 100, 32, 49, 32, 57, 44, 97, 32, 49, 32, 101, 54, 10, 99, 98, 32, 49, 32, 101, 52, 44, 56, 102, 32, 49, 32, 100, 101, 44, 48, 32, 49, 32, 101, 54, 44, 48, 32, 49, 32, 100, 99, 44, 100, 98, 32, 49, 32, 101, 54, 44, 48, 32, 49, 32, 100, 99, 44, 52, 55, 32, 49, 32, 57, 44, 49, 52, 32, 56, 32, 101, 54, 44, 50, 32, 49, 32, 100, 99, 44, 51, 48, 32, 53, 32, 101, 54, 44, 48, 32, 54, 32, 100, 99, 44, 48, 32, 50, 32, 101, 54, 44, 48, 32, 49, 32, 100, 99, 44, 49, 32, 50, 32, 100, 99, 44, 48, 32, 50, 32, 101, 54, 44, 48, 32, 50, 32, 100, 99, 10, 48, 32, 53, 32, 101, 54, 44, 48, 32, 49, 32, 100, 99, 44, 48, 32, 52, 32, 101, 54, 44, 54, 53, 32, 49, 32, 55, 44, 102, 32, 49, 32, 57, 44, 50, 54, 32, 49, 32, 101, 54, 44, 48, 32, 49, 32, 100, 99, 44, 48, 32, 55, 32, 101, 54, 44, 51, 54, 32, 50, 32, 57, 44, 51, 97, 32, 49, 32, 55, 44, 98, 32, 50, 32, 57, 44, 52, 51, 32, 49, 32, 55, 44, 57, 56, 32, 51, 32, 101, 54, 44, 49, 32, 49, 32, 49, 44, 48, 32, 53, 32, 100, 99, 44, 48, 32, 50, 32, 101, 54, 10, 48, 32, 52, 32, 100, 99, 44, 48, 32, 49, 32, 101, 54, 44, 49, 32, 55, 32, 49, 44, 52, 32, 49, 32, 100, 99, 44, 54, 32, 49, 32, 101, 54, 44, 51, 32, 50, 32, 101, 54, 44, 99, 54, 32, 50, 32, 101, 54, 44, 48, 32, 49, 32, 100, 99, 44, 48, 32, 55, 32, 101, 54, 44, 48, 32, 49, 32, 100, 99, 44, 48, 32, 50, 32, 101, 54, 44, 48, 32, 49, 32, 101, 97, 44, 48, 32, 49, 32, 100, 54, 44, 48, 32, 49, 32, 100, 99, 44, 48, 32, 49, 32, 99, 97, 44, 48, 32, 50, 53, 32, 101, 54, 10, 48, 32, 49, 32, 101, 56, 44, 48, 32, 50, 32, 101, 52, 44, 48, 32, 49, 32, 100, 99, 44, 48, 32, 49, 32, 100, 97, 44, 48, 32, 49, 32, 101, 54, 44, 48, 32, 49, 32, 101, 57, 44, 48, 32, 49, 32, 100, 99, 44, 48, 32, 49, 32, 101, 54, 44, 48, 32, 49, 32, 100, 99, 44, 50, 100, 48, 32, 50, 32, 101, 54, 44, 48, 32, 50, 32, 49, 44, 48, 32, 52, 32, 101, 54, 44, 48, 32, 51, 32, 49, 44, 48, 32, 50, 32, 101, 54, 44, 52, 32, 49, 32, 101, 54, 44, 51, 32, 50, 32, 49, 10, 48, 32, 49, 32, 101, 54, 44, 48, 32, 49, 32, 100, 99, 44, 48, 32, 49, 32, 101, 54, 44, 48, 32, 50, 32, 49, 44, 48, 32, 52, 32, 100, 99, 44, 48, 32, 49, 32, 101, 54, 44, 98, 102, 101, 32, 51, 32, 101, 54, 44, 56, 100, 32, 49, 32, 57, 44, 54, 48, 32, 50, 48, 32, 101, 54, 44, 50, 50, 97, 32, 49, 32, 100, 97, 44, 48, 32, 49, 32, 101, 52, 44, 48, 32, 49, 32, 101, 56, 44, 48, 32, 49, 32, 100, 101, 44, 48, 32, 50, 32, 101, 48, 44, 54, 57, 32, 50, 32, 56, 44, 55, 53, 100, 52, 32, 49, 32, 101, 54, 10, 52, 32, 97, 32, 101, 54, 44, 50, 48, 32, 50, 32, 101, 54, 44, 53, 48, 32, 50, 32, 101, 54, 44, 49, 49, 52, 32, 49, 32, 57, 44, 50, 53, 32, 49, 32, 57, 44, 57, 55, 32, 49, 32, 57, 44, 49, 98, 32, 49, 50, 32, 101, 54, 44, 51, 57, 32, 51, 32, 100, 99, 44, 50, 53, 32, 49, 32, 57, 44, 53, 102, 32, 49, 32, 55, 44, 99, 32, 49, 32, 57, 44, 101, 102, 32, 49, 32, 101, 54, 44, 49, 32, 50, 32, 101, 54, 44, 48, 32, 49, 32, 100, 99, 44, 50, 32, 50, 32, 101, 54, 44, 53, 32, 50, 32, 101, 54, 10, 49, 32, 49, 32, 101, 54, 44, 51, 52, 32, 49, 32, 57, 44, 102, 54, 32, 49, 32, 57, 44, 52, 102, 51, 48, 32, 49, 32, 49, 97, 44, 51, 48, 49, 32, 55, 32, 101, 54, 44, 48, 32, 55, 32, 100, 99, 44, 48, 32, 50, 32, 101, 54, 44, 51, 99, 100, 32, 49, 32, 100, 99, 44, 101, 50, 32, 49, 32, 100, 99, 44, 57, 53, 32, 53, 32, 101, 54, 44, 54, 57, 50, 32, 49, 32, 100, 99, 44, 49, 32, 49, 32, 101, 54, 44, 50, 56, 32, 49, 32, 101, 54, 44, 48, 32, 49, 32, 49, 44, 48, 32, 49, 32, 100, 99, 44, 52, 32, 49, 32, 57, 10, 97, 53, 32, 49, 32, 101, 54, 44, 48, 32, 49, 32, 100, 99, 44, 50, 51, 100, 32, 52, 32, 101, 54, 44, 49, 56, 51, 32, 50, 32, 101, 54, 44, 53, 48, 32, 51, 32, 100, 99, 44, 52, 54, 32, 50, 32, 100, 99, 44, 48, 32, 51, 32, 101, 54, 44, 48, 32, 49, 32, 100, 99, 44, 48, 32, 49, 32, 101, 54, 44, 48, 32, 52, 32, 100, 99, 44, 51, 49, 32, 49, 32, 101, 54, 44, 48, 32, 49, 32, 100, 99, 44, 48, 32, 49, 32, 101, 54, 44, 48, 32, 49, 32, 100, 99, 44, 99, 48, 32, 49, 32, 57, 44, 50, 57, 32, 49, 32, 57, 10, 101, 32, 49, 32, 57, 44, 51, 57, 32, 49, 32, 57, 44, 48, 32, 49, 32, 55, 44, 52, 53, 32, 51, 32, 101, 54, 44, 51, 48, 32, 50, 32, 57, 44, 51, 101, 32, 49, 32, 55, 44, 52, 99, 32, 49, 32, 57, 44, 57, 32, 49, 32, 55, 44, 54, 97, 32, 49, 32, 57, 44, 48, 32, 49, 32, 55, 44, 98, 50, 32, 49, 32, 55, 44, 48, 32, 49, 32, 57, 44, 53, 48, 32, 50, 32, 55, 44, 49, 48, 32, 49, 32, 57, 44, 49, 56, 32, 55, 32, 101, 54, 44, 51, 32, 53, 32, 101, 54, 10, 99, 100, 32, 49, 32, 57, 44, 51, 32, 49, 32, 55, 44, 49, 55, 32, 49, 32, 101, 54, 44, 54, 51, 32, 49, 32, 57, 44, 48, 32, 49, 32, 55, 44, 102, 98, 32, 49, 32, 57, 44, 48, 32, 49, 32, 55, 44, 55, 101, 32, 49, 32, 57, 44, 55, 54, 32, 49, 32, 57, 44, 48, 32, 49, 32, 55, 44, 55, 51, 32, 49, 32, 57, 44, 49, 48, 100, 32, 49, 32, 57, 44, 48, 32, 49, 32, 55, 44, 49, 48, 50, 32, 50, 32, 57, 44, 52, 32, 49, 32, 55, 44, 57, 99, 32, 49, 32, 57, 10, 53, 51, 32, 49, 32, 57, 44, 49, 50, 32, 49, 32, 57, 44, 53, 49, 32, 49, 32, 57, 44, 49, 97, 53, 32, 49, 32, 57, 44, 49, 48, 50, 32, 49, 32, 55, 44, 49, 32, 50, 32, 57, 44, 53, 49, 32, 49, 32, 57, 44, 49, 97, 57, 32, 50, 32, 57, 44, 52, 98, 97, 100, 32, 53, 32, 49, 44, 51, 98, 32, 55, 32, 101, 54, 44, 52, 98, 57, 32, 50, 32, 54, 44, 52, 99, 97, 99, 32, 49, 32, 49, 44, 49, 52, 99, 54, 32, 50, 32, 100, 56, 44, 48, 32, 51, 32, 49, 44, 51, 32, 49, 32, 101, 50, 44, 48, 32, 53, 32, 100, 56, 10, 56, 32, 56, 32, 100, 99, 44, 50, 32, 53, 32, 101, 54, 44, 48, 32, 50, 32, 100, 99, 44, 49, 101, 32, 52, 32, 101, 54, 44, 57, 52, 32, 51, 32, 101, 54, 44, 100, 98, 98, 32, 55, 32, 101, 54, 44, 49, 32, 49, 49, 32, 101, 54, 44, 50, 32, 55, 32, 101, 54, 44, 49, 32, 50, 32, 101, 54, 44, 49, 32, 53, 32, 101, 54, 44, 54, 52, 32, 49, 32, 101, 54, 44, 97, 48, 32, 55, 32, 101, 54, 44, 49, 55, 55, 32, 49, 32, 101, 54, 44, 51, 100, 32, 52, 32, 101, 54, 44, 49, 102, 99, 32, 50, 32, 101, 56, 44, 48, 32, 49, 32, 100, 99, 10, 48, 32, 49, 32, 101, 54, 44, 51, 101, 48, 32, 55, 32, 100, 99, 44, 54, 100, 32, 54, 32, 101, 54, 44, 48, 32, 49, 32, 55] : List UInt8) with
  | some r1 =>
  F11l0 n n 0 r1 0 ([] : List (Int × Int)) ([] : List (Int × List Int)) ([] : List (Int × Int)) ([] : List (List Int × Int)) ([] : List (Int × Int)) 0
  | none => none)

noncomputable def c11 : Code := Try.f11.body.getD .skip

noncomputable def G11 (n : Nat) : Ctx (Res [.ref (.pair (.map (.int .i32) (.int .i64)) (.pair (.map (.int .i32) (.arr 2 (.int .i32))) (.pair (.map (.int .i32) (.int .i32)) (.pair (.map (.arr 2 (.int .i32)) (.int .i32)) (.pair (.map (.int .i32) (.int .i64)) (.pair (.int .i64) .unit))))))]) := ent 22 [.str] [.slice (.slice (.int .i32))] (fun x => F22 n x) (noFns)

theorem GO11 (n : Nat) : CtxOK Try.prog lay0 (G11 n) := ent_ok (T22 n) (fun _ _ h => h) (noFns_ok)

noncomputable def P11 (n : Nat) : Pl (Res [.ref (.pair (.map (.int .i32) (.int .i64)) (.pair (.map (.int .i32) (.arr 2 (.int .i32))) (.pair (.map (.int .i32) (.int .i32)) (.pair (.map (.arr 2 (.int .i32)) (.int .i32)) (.pair (.map (.int .i32) (.int .i64)) (.pair (.int .i64) .unit))))))]) :=
  (.two .leaf (.two .leaf (.two .leaf (.two .leaf (.two (.two .leaf (.one (.loop [.ptr (.tmp 1) 15 0, .val (.tmp 2) (.int .i32), .val (.tmp 3) (.slice (.slice (.int .i32))), .val (.tmp 4) (.int .i64), .map (.cell 15 0) 20000000 (.int .i32) (.int .i64), .map (.cell 15 1) 20000001 (.int .i32) (.arr 2 (.int .i32)), .map (.cell 15 2) 20000002 (.int .i32) (.int .i32), .map (.cell 15 3) 20000003 (.arr 2 (.int .i32)) (.int .i32), .map (.cell 15 4) 20000004 (.int .i32) (.int .i64), .val (.cell 15 5) (.int .i64), .box 15 6] n (fun m x => F11l0 n m x.2.1 x.2.2.1 x.2.2.2.1 x.2.2.2.2.1 x.2.2.2.2.2.1 x.2.2.2.2.2.2.1 x.2.2.2.2.2.2.2.1 x.2.2.2.2.2.2.2.2.1 x.2.2.2.2.2.2.2.2.2.1) (fun r => let rF11l0 : Int → List (List Int) → Int → List (Int × Int) → List (Int × List Int) → List (Int × Int) → List (List Int × Int) → List (Int × Int) → Int → Option ((Option (List (Int × Int) × (List (Int × List Int) × (List (Int × Int) × (List (List Int × Int) × (List (Int × Int) × (Int × Unit)))))))) := (fun y0 y1 y2 y3 y4 y5 y6 y7 y8 => r ((), y0, y1, y2, y3, y4, y5, y6, y7, y8, (), ())); (.two .leaf (.two (.one (.two .leaf (.two .leaf (.one (.loop [.ptr (.tmp 1) 15 0, .val (.tmp 2) (.int .i32), .val (.tmp 3) (.slice (.slice (.int .i32))), .val (.tmp 4) (.int .i64), .val (.tmp 5) (.int .i32), .map (.cell 15 0) 20000000 (.int .i32) (.int .i64), .map (.cell 15 1) 20000001 (.int .i32) (.arr 2 (.int .i32)), .map (.cell 15 2) 20000002 (.int .i32) (.int .i32), .map (.cell 15 3) 20000003 (.arr 2 (.int .i32)) (.int .i32), .map (.cell 15 4) 20000004 (.int .i32) (.int .i64), .val (.cell 15 5) (.int .i64), .box 15 6] n (fun m x => F11l3 n rF11l0 m x.2.1 x.2.2.1 x.2.2.2.1 x.2.2.2.2.1 x.2.2.2.2.2.1 x.2.2.2.2.2.2.1 x.2.2.2.2.2.2.2.1 x.2.2.2.2.2.2.2.2.1 x.2.2.2.2.2.2.2.2.2.1 x.2.2.2.2.2.2.2.2.2.2.1) (fun _ => .leaf)))))) .leaf)))))) (.two .leaf (.two .leaf (.two (.two .leaf (.one (.loop [.ptr (.tmp 1) 15 0, .val (.tmp 2) (.int .i32), .val (.tmp 3) (.slice (.slice (.int .i32))), .val (.tmp 6) (.int .i64), .map (.cell 15 0) 20000000 (.int .i32) (.int .i64), .map (.cell 15 1) 20000001 (.int .i32) (.arr 2 (.int .i32)), .map (.cell 15 2) 20000002 (.int .i32) (.int .i32), .map (.cell 15 3) 20000003 (.arr 2 (.int .i32)) (.int .i32), .map (.cell 15 4) 20000004 (.int .i32) (.int .i64), .val (.cell 15 5) (.int .i64), .box 15 6] n (fun m x => F11l1 n m x.2.1 x.2.2.1 x.2.2.2.1 x.2.2.2.2.1 x.2.2.2.2.2.1 x.2.2.2.2.2.2.1 x.2.2.2.2.2.2.2.1 x.2.2.2.2.2.2.2.2.1 x.2.2.2.2.2.2.2.2.2.1) (fun _ => .leaf)))) (.two .leaf (.two .leaf (.two (.two .leaf (.one (.loop [.ptr (.tmp 1) 15 0, .val (.tmp 2) (.int .i32), .val (.tmp 3) (.slice (.slice (.int .i32))), .val (.tmp 8) (.int .i64), .map (.cell 15 0) 20000000 (.int .i32) (.int .i64), .map (.cell 15 1) 20000001 (.int .i32) (.arr 2 (.int .i32)), .map (.cell 15 2) 20000002 (.int .i32) (.int .i32), .map (.cell 15 3) 20000003 (.arr 2 (.int .i32)) (.int .i32), .map (.cell 15 4) 20000004 (.int .i32) (.int .i64), .val (.cell 15 5) (.int .i64), .box 15 6] n (fun m x => F11l2 n m x.2.1 x.2.2.1 x.2.2.2.1 x.2.2.2.2.1 x.2.2.2.2.2.1 x.2.2.2.2.2.2.1 x.2.2.2.2.2.2.2.1 x.2.2.2.2.2.2.2.2.1 x.2.2.2.2.2.2.2.2.2.1) (fun _ => .leaf)))) .leaf)))))))))))

theorem K11 (n : Nat) : PlOK (G11 n) noInl lay0 141 (P11 n) c11 (fnK lay0 [.tmp 0] [] [.val (.ref (.pair (.map (.int .i32) (.int .i64)) (.pair (.map (.int .i32) (.arr 2 (.int .i32))) (.pair (.map (.int .i32) (.int .i32)) (.pair (.map (.arr 2 (.int .i32)) (.int .i32)) (.pair (.map (.int .i32) (.int .i64)) (.pair (.int .i64) .unit)))))))] [.ref (.pair (.map (.int .i32) (.int .i64)) (.pair (.map (.int .i32) (.arr 2 (.int .i32))) (.pair (.map (.int .i32) (.int .i32)) (.pair (.map (.arr 2 (.int .i32)) (.int .i32)) (.pair (.map (.int .i32) (.int .i64)) (.pair (.int .i64) .unit))))))]) :=
  ⟨trivial, ⟨trivial, ⟨trivial, ⟨trivial, ⟨⟨trivial, ⟨by kernel_rfl, fun x => by kernel_rfl, fun m => ⟨fun x => by kernel_rfl, ⟨trivial, ⟨⟨trivial, ⟨trivial, ⟨by kernel_rfl, fun x => by kernel_rfl, fun m => ⟨fun x => by kernel_rfl, trivial⟩⟩⟩⟩, trivial⟩⟩⟩⟩⟩, ⟨trivial, ⟨trivial, ⟨⟨trivial, ⟨by kernel_rfl, fun x => by kernel_rfl, fun m => ⟨fun x => by kernel_rfl, trivial⟩⟩⟩, ⟨trivial, ⟨trivial, ⟨⟨trivial, ⟨by kernel_rfl, fun x => by kernel_rfl, fun m => ⟨fun x => by kernel_rfl, trivial⟩⟩⟩, trivial⟩⟩⟩⟩⟩⟩⟩⟩⟩⟩⟩

theorem E11 (n : Nat) : F11 n = fnE [] (argDs [] ()) (fun st => ev (G11 n) noInl lay0 141 c11 (P11 n) st (fnK lay0 [.tmp 0] [] [.val (.ref (.pair (.map (.int .i32) (.int .i64)) (.pair (.map (.int .i32) (.arr 2 (.int .i32))) (.pair (.map (.int .i32) (.int .i32)) (.pair (.map (.arr 2 (.int .i32)) (.int .i32)) (.pair (.map (.int .i32) (.int .i64)) (.pair (.int .i64) .unit)))))))] [.ref (.pair (.map (.int .i32) (.int .i64)) (.pair (.map (.int .i32) (.arr 2 (.int .i32))) (.pair (.map (.int .i32) (.int .i32)) (.pair (.map (.arr 2 (.int .i32)) (.int .i32)) (.pair (.map (.int .i32) (.int .i64)) (.pair (.int .i64) .unit))))))])) := by kernel_rfl

theorem T11 (n : Nat) : Told Try.prog 11 [] [.ref (.pair (.map (.int .i32) (.int .i64)) (.pair (.map (.int .i32) (.arr 2 (.int .i32))) (.pair (.map (.int .i32) (.int .i32)) (.pair (.map (.arr 2 (.int .i32)) (.int .i32)) (.pair (.map (.int .i32) (.int .i64)) (.pair (.int .i64) .unit))))))] (fun x => F11 n) := by
  rintro _ r h
  exact calls_plain (fn_sound lay0_ok mixed (rvs := [.tmp 0]) (by kernel_rfl : Try.prog.funcs[11]? = some Try.f11) (by kernel_rfl : Try.f11.body = some c11) (by kernel_rfl) (by kernel_rfl) (by kernel_rfl) (GO11 n) noInl_ok (K11 n) ((E11 n).symm.trans h)) rfl rfl rfl rfl

/-! ### orthoepy/orthoepyref06.Kind -/

def F54 (n : Nat) (a0 : Int) : Option (Int) :=
  (bif (decide (a0 ≥ 4352)) then
    (bif (decide (a0 ≤ 4370)) then
      some 1
    else
      (bif (decide (a0 ≥ 4449)) then
        (bif (decide (a0 ≤ 4469)) then
          some 2
        else
          (bif (decide (a0 ≥ 4520)) then
            (bif (decide (a0 ≤ 4546)) then
              some 3
            else
              (bif (decide (a0 < 44032)) then
                some 0
              else
                (bif (decide (a0 > 55203)) then
                  some 0
                else
                  (bif (!(28 == 0)) then
                  (bif ((Int.tmod (IntKind.wrap .i32 (a0 - 44032)) 28) == 0) then
                    some 4
                  else
                    some 5)
                  else none))))
          else
            (bif (decide (a0 < 44032)) then
              some 0
            else
              (bif (decide (a0 > 55203)) then
                some 0
              else
                (bif (!(28 == 0)) then
                (bif ((Int.tmod (IntKind.wrap .i32 (a0 - 44032)) 28) == 0) then
                  some 4
                else
                  some 5)
                else none)))))
      else
        (bif (decide (a0 ≥ 4520)) then
          (bif (decide (a0 ≤ 4546)) then
            some 3
          else
            (bif (decide (a0 < 44032)) then
              some 0
            else
              (bif (decide (a0 > 55203)) then
                some 0
              else
                (bif (!(28 == 0)) then
                (bif ((Int.tmod (IntKind.wrap .i32 (a0 - 44032)) 28) == 0) then
                  some 4
                else
                  some 5)
                else none))))
        else
          (bif (decide (a0 < 44032)) then
            some 0
          else
            (bif (decide (a0 > 55203)) then
              some 0
            else
              (bif (!(28 == 0)) then
              (bif ((Int.tmod (IntKind.wrap .i32 (a0 - 44032)) 28) == 0) then
                some 4
              else
                some 5)
              else none))))))
  else
    (bif (decide (a0 ≥ 4449)) then
      (bif (decide (a0 ≤ 4469)) then
        some 2
      else
        (bif (decide (a0 ≥ 4520)) then
          (bif (decide (a0 ≤ 4546)) then
            some 3
          else
            (bif (decide (a0 < 44032)) then
              some 0
            else
              (bif (decide (a0 > 55203)) then
                some 0
              else
                (bif (!(28 == 0)) then
                (bif ((Int.tmod (IntKind.wrap .i32 (a0 - 44032)) 28) == 0) then
                  some 4
                else
                  some 5)
                else none))))
        else
          (bif (decide (a0 < 44032)) then
            some 0
          else
            (bif (decide (a0 > 55203)) then
              some 0
            else
              (bif (!(28 == 0)) then
              (bif ((Int.tmod (IntKind.wrap .i32 (a0 - 44032)) 28) == 0) then
                some 4
              else
                some 5)
              else none)))))
    else
      (bif (decide (a0 ≥ 4520)) then
        (bif (decide (a0 ≤ 4546)) then
          some 3
        else
          (bif (decide (a0 < 44032)) then
            some 0
          else
            (bif (decide (a0 > 55203)) then
              some 0
            else
              (bif (!(28 == 0)) then
              (bif ((Int.tmod (IntKind.wrap .i32 (a0 - 44032)) 28) == 0) then
                some 4
              else
                some 5)
              else none))))
      else
        (bif (decide (a0 < 44032)) then
          some 0
        else
          (bif (decide (a0 > 55203)) then
            some 0
          else
            (bif (!(28 == 0)) then
            (bif ((Int.tmod (IntKind.wrap .i32 (a0 - 44032)) 28) == 0) then
              some 4
            else
              some 5)
            else none))))))

noncomputable def c54 : Code := Try.f54.body.getD .skip

noncomputable def G54 (n : Nat) : Ctx (Res [.int .i64]) := noFns

theorem GO54 (n : Nat) : CtxOK Try.prog lay0 (G54 n) := noFns_ok

noncomputable def P54 (n : Nat) : Pl (Res [.int .i64]) :=
  .leaf

theorem K54 (n : Nat) : PlOK (G54 n) noInl lay0 36 (P54 n) c54 (fnK lay0 [.tmp 2] [.val (.int .i32)] [.val (.int .i64)] [.int .i64]) :=
  trivial

theorem E54 (n : Nat) (a0 : Int) : F54 n a0 = fnE [.val (.int .i32)] (argDs [.int .i32] (a0)) (fun st => ev (G54 n) noInl lay0 36 c54 (P54 n) st (fnK lay0 [.tmp 2] [.val (.int .i32)] [.val (.int .i64)] [.int .i64])) := by kernel_rfl

theorem T54 (n : Nat) : Told Try.prog 54 [.int .i32] [.int .i64] (fun x => F54 n x) := by
  rintro a0 r h
  exact calls_plain (fn_sound lay0_ok mixed (rvs := [.tmp 2]) (by kernel_rfl : Try.prog.funcs[54]? = some Try.f54) (by kernel_rfl : Try.f54.body = some c54) (by kernel_rfl) (by kernel_rfl) (by kernel_rfl) (GO54 n) noInl_ok (K54 n) ((E54 n a0).symm.trans h)) rfl rfl rfl rfl

/-! ### orthoepy/orthoepyref06.Split -/

def F55 (n : Nat) (a0 : Int) : Option ((List Int)) :=
  (match F54 n a0 with
  | some r1 =>
  (bif (decide (r1 < 4)) then
    some ([] : List Int)
  else
    (bif (!(588 == 0)) then
    (bif (!(588 == 0)) then
    (bif (!(28 == 0)) then
    (bif (!(28 == 0)) then
    (bif (decide ((Int.tmod (IntKind.wrap .i32 (a0 - 44032)) 28) > 0)) then
      (bif (!(28 == 0)) then
      (bif (decide (((([(IntKind.wrap .i32 (4352 + (IntKind.wrap .i32 (Int.tdiv (IntKind.wrap .i32 (a0 - 44032)) 588)))), (IntKind.wrap .i32 (4449 + (IntKind.wrap .i32 (Int.tdiv (Int.tmod (IntKind.wrap .i32 (a0 - 44032)) 588) 28))))] : List Int)).length + (([(IntKind.wrap .i32 (4519 + (Int.tmod (IntKind.wrap .i32 (a0 - 44032)) 28)))] : List Int)).length) * 4 ≤ maxRoom) && decide ((([(IntKind.wrap .i32 (4352 + (IntKind.wrap .i32 (Int.tdiv (IntKind.wrap .i32 (a0 - 44032)) 588)))), (IntKind.wrap .i32 (4449 + (IntKind.wrap .i32 (Int.tdiv (Int.tmod (IntKind.wrap .i32 (a0 - 44032)) 588) 28))))] : List Int)).length + (([(IntKind.wrap .i32 (4519 + (Int.tmod (IntKind.wrap .i32 (a0 - 44032)) 28)))] : List Int)).length ≤ maxRoom)) then
      some (([(IntKind.wrap .i32 (4352 + (IntKind.wrap .i32 (Int.tdiv (IntKind.wrap .i32 (a0 - 44032)) 588)))), (IntKind.wrap .i32 (4449 + (IntKind.wrap .i32 (Int.tdiv (Int.tmod (IntKind.wrap .i32 (a0 - 44032)) 588) 28))))] : List Int) ++ ([(IntKind.wrap .i32 (4519 + (Int.tmod (IntKind.wrap .i32 (a0 - 44032)) 28)))] : List Int))
      else none)
      else none)
    else
      some ([(IntKind.wrap .i32 (4352 + (IntKind.wrap .i32 (Int.tdiv (IntKind.wrap .i32 (a0 - 44032)) 588)))), (IntKind.wrap .i32 (4449 + (IntKind.wrap .i32 (Int.tdiv (Int.tmod (IntKind.wrap .i32 (a0 - 44032)) 588) 28))))] : List Int))
    else none)
    else none)
    else none)
    else none))
  | none => none)

noncomputable def c55 : Code := Try.f55.body.getD .skip

noncomputable def G55 (n : Nat) : Ctx (Res [.slice (.int .i32)]) := ent 54 [.int .i32] [.int .i64] (fun x => F54 n x) (noFns)

theorem GO55 (n : Nat) : CtxOK Try.prog lay0 (G55 n) := ent_ok (T54 n) (fun _ _ h => h) (noFns_ok)

noncomputable def P55 (n : Nat) : Pl (Res [.slice (.int .i32)]) :=
  .leaf

theorem K55 (n : Nat) : PlOK (G55 n) noInl lay0 28 (P55 n) c55 (fnK lay0 [.tmp 2] [.val (.int .i32)] [.vec 21 (.int .i32)] [.slice (.int .i32)]) :=
  trivial

theorem E55 (n : Nat) (a0 : Int) : F55 n a0 = fnE [.val (.int .i32)] (argDs [.int .i32] (a0)) (fun st => ev (G55 n) noInl lay0 28 c55 (P55 n) st (fnK lay0 [.tmp 2] [.val (.int .i32)] [.vec 21 (.int .i32)] [.slice (.int .i32)])) := by kernel_rfl

theorem T55 (n : Nat) : ToldIo Try.prog 55 [.val (.int .i32)] [.vec 21 (.int .i32)] [.int .i32] [.slice (.int .i32)] (fun x => F55 n x) := by
  rintro a0 r h
  exact fn_sound lay0_ok mixed (rvs := [.tmp 2]) (by kernel_rfl : Try.prog.funcs[55]? = some Try.f55) (by kernel_rfl : Try.f55.body = some c55) (by kernel_rfl) (by kernel_rfl) (by kernel_rfl) (GO55 n) noInl_ok (K55 n) ((E55 n a0).symm.trans h)

/-! ### orthoepy/orthoepyref07.Full -/

def F51B (self : Option (List (Int × Int) × (List (Int × List Int) × (List (Int × Int) × (List (List Int × Int) × (List (Int × Int) × (Int × Unit)))))) → Int → Option ((List Int))) (n : Nat) (a0 : Option (List (Int × Int) × (List (Int × List Int) × (List (Int × Int) × (List (List Int × Int) × (List (Int × Int) × (Int × Unit))))))) (a1 : Int) : Option ((List Int)) :=
  (match F54 n a1 with
  | some r1 =>
  (bif (decide (r1 > 3)) then
    (match F55 n a1 with
    | some r2 =>
    some r2
    | none => none)
  else
    (bif (Option.isSome a0) then
    (bif (Option.isSome (mapGet (Ty.beq (.int .i32)) (Option.getD a0 (Ty.dflt (.pair (.map (.int .i32) (.int .i64)) (.pair (.map (.int .i32) (.arr 2 (.int .i32))) (.pair (.map (.int .i32) (.int .i32)) (.pair (.map (.arr 2 (.int .i32)) (.int .i32)) (.pair (.map (.int .i32) (.int .i64)) (.pair (.int .i64) .unit)))))))).2.2.1 a1)) then
      (match self a0 (Option.getD (mapGet (Ty.beq (.int .i32)) (Option.getD a0 (Ty.dflt (.pair (.map (.int .i32) (.int .i64)) (.pair (.map (.int .i32) (.arr 2 (.int .i32))) (.pair (.map (.int .i32) (.int .i32)) (.pair (.map (.arr 2 (.int .i32)) (.int .i32)) (.pair (.map (.int .i32) (.int .i64)) (.pair (.int .i64) .unit)))))))).2.2.1 a1) 0) with
      | some r3 =>
      some r3
      | none => none)
    else
      (bif (Option.isSome a0) then
      (bif (Option.isSome (mapGet (Ty.beq (.int .i32)) (Option.getD a0 (Ty.dflt (.pair (.map (.int .i32) (.int .i64)) (.pair (.map (.int .i32) (.arr 2 (.int .i32))) (.pair (.map (.int .i32) (.int .i32)) (.pair (.map (.arr 2 (.int .i32)) (.int .i32)) (.pair (.map (.int .i32) (.int .i64)) (.pair (.int .i64) .unit)))))))).2.1 a1)) then
        (match self a0 (((Option.getD (mapGet (Ty.beq (.int .i32)) (Option.getD a0 (Ty.dflt (.pair (.map (.int .i32) (.int .i64)) (.pair (.map (.int .i32) (.arr 2 (.int .i32))) (.pair (.map (.int .i32) (.int .i32)) (.pair (.map (.arr 2 (.int .i32)) (.int .i32)) (.pair (.map (.int .i32) (.int .i64)) (.pair (.int .i64) .unit)))))))).2.1 a1) ([0, 0] : List Int))).getD 0 (Ty.dflt (.int .i32))) with
        | some r4 =>
        (match self a0 (((Option.getD (mapGet (Ty.beq (.int .i32)) (Option.getD a0 (Ty.dflt (.pair (.map (.int .i32) (.int .i64)) (.pair (.map (.int .i32) (.arr 2 (.int .i32))) (.pair (.map (.int .i32) (.int .i32)) (.pair (.map (.arr 2 (.int .i32)) (.int .i32)) (.pair (.map (.int .i32) (.int .i64)) (.pair (.int .i64) .unit)))))))).2.1 a1) ([0, 0] : List Int))).getD 1 (Ty.dflt (.int .i32))) with
        | some r5 =>
        (bif (decide (((r4).length + (r5).length) * 4 ≤ maxRoom) && decide ((r4).length + (r5).length ≤ maxRoom)) then
        some (r4 ++ r5)
        else none)
        | none => none)
        | none => none)
      else
        some ([a1] : List Int))
      else none))
    else none))
  | none => none)

def F51 : Nat → Option (List (Int × Int) × (List (Int × List Int) × (List (Int × Int) × (List (List Int × Int) × (List (Int × Int) × (Int × Unit)))))) → Int → Option ((List Int))
  | 0, _, _ => none
  | n + 1, a0, a1 => F51B (F51 n) n a0 a1

noncomputable def lay51 : Lay := layOf layL [(51, .io [.val (.ref (.pair (.map (.int .i32) (.int .i64)) (.pair (.map (.int .i32) (.arr 2 (.int .i32))) (.pair (.map (.int .i32) (.int .i32)) (.pair (.map (.arr 2 (.int .i32)) (.int .i32)) (.pair (.map (.int .i32) (.int .i64)) (.pair (.int .i64) .unit))))))), .val (.int .i32)] [.vec 21 (.int .i32)]), (55, .io [.val (.int .i32)] [.vec 21 (.int .i32)])]
theorem lay51_ok : LayOK Try.prog lay51 := layOf_ok layAll (by
  intro p hp
  simp only [List.mem_cons, List.not_mem_nil, or_false] at hp
  rcases hp with rfl | rfl
  · exact trivial
  · exact trivial) layEq layKeys

noncomputable def c51 : Code := Try.f51.body.getD .skip

noncomputable def G51 (self : Option (List (Int × Int) × (List (Int × List Int) × (List (Int × Int) × (List (List Int × Int) × (List (Int × Int) × (Int × Unit)))))) → Int → Option ((List Int))) (n : Nat) : Ctx (Res [.slice (.int .i32)]) := entIo 51 [.ref (.pair (.map (.int .i32) (.int .i64)) (.pair (.map (.int .i32) (.arr 2 (.int .i32))) (.pair (.map (.int .i32) (.int .i32)) (.pair (.map (.arr 2 (.int .i32)) (.int .i32)) (.pair (.map (.int .i32) (.int .i64)) (.pair (.int .i64) .unit)))))), .int .i32] [.slice (.int .i32)] (fun x => self x.1 x.2) (ent 54 [.int .i32] [.int .i64] (fun x => F54 n x) (entIo 55 [.int .i32] [.slice (.int .i32)] (fun x => F55 n x) (noFns)))

theorem GO51 (self : Option (List (Int × Int) × (List (Int × List Int) × (List (Int × Int) × (List (List Int × Int) × (List (Int × Int) × (Int × Unit)))))) → Int → Option ((List Int))) (hs : ToldIo Try.prog 51 [.val (.ref (.pair (.map (.int .i32) (.int .i64)) (.pair (.map (.int .i32) (.arr 2 (.int .i32))) (.pair (.map (.int .i32) (.int .i32)) (.pair (.map (.arr 2 (.int .i32)) (.int .i32)) (.pair (.map (.int .i32) (.int .i64)) (.pair (.int .i64) .unit))))))), .val (.int .i32)] [.vec 21 (.int .i32)] [.ref (.pair (.map (.int .i32) (.int .i64)) (.pair (.map (.int .i32) (.arr 2 (.int .i32))) (.pair (.map (.int .i32) (.int .i32)) (.pair (.map (.arr 2 (.int .i32)) (.int .i32)) (.pair (.map (.int .i32) (.int .i64)) (.pair (.int .i64) .unit)))))), .int .i32] [.slice (.int .i32)] (fun x => self x.1 x.2)) (n : Nat) : CtxOK Try.prog lay51 (G51 self n) := ent_okIo (ps := [.val (.ref (.pair (.map (.int .i32) (.int .i64)) (.pair (.map (.int .i32) (.arr 2 (.int .i32))) (.pair (.map (.int .i32) (.int .i32)) (.pair (.map (.arr 2 (.int .i32)) (.int .i32)) (.pair (.map (.int .i32) (.int .i64)) (.pair (.int .i64) .unit))))))), .val (.int .i32)]) (rss := [.vec 21 (.int .i32)]) hs (fun _ _ h => h) (ent_ok (T54 n) (fun _ _ h => h) (ent_okIo (ps := [.val (.int .i32)]) (rss := [.vec 21 (.int .i32)]) (T55 n) (fun _ _ h => h) (noFns_ok)))

noncomputable def P51 (self : Option (List (Int × Int) × (List (Int × List Int) × (List (Int × Int) × (List (List Int × Int) × (List (Int × Int) × (Int × Unit)))))) → Int → Option ((List Int))) (n : Nat) : Pl (Res [.slice (.int .i32)]) :=
  .leaf

theorem K51 (self : Option (List (Int × Int) × (List (Int × List Int) × (List (Int × Int) × (List (List Int × Int) × (List (Int × Int) × (Int × Unit)))))) → Int → Option ((List Int))) (n : Nat) : PlOK (G51 self n) noInl lay51 48 (P51 self n) c51 (fnK lay51 [.tmp 4] [.val (.ref (.pair (.map (.int .i32) (.int .i64)) (.pair (.map (.int .i32) (.arr 2 (.int .i32))) (.pair (.map (.int .i32) (.int .i32)) (.pair (.map (.arr 2 (.int .i32)) (.int .i32)) (.pair (.map (.int .i32) (.int .i64)) (.pair (.int .i64) .unit))))))), .val (.int .i32)] [.vec 21 (.int .i32)] [.slice (.int .i32)]) :=
  trivial

theorem E51 (self : Option (List (Int × Int) × (List (Int × List Int) × (List (Int × Int) × (List (List Int × Int) × (List (Int × Int) × (Int × Unit)))))) → Int → Option ((List Int))) (n : Nat) (a0 : Option (List (Int × Int) × (List (Int × List Int) × (List (Int × Int) × (List (List Int × Int) × (List (Int × Int) × (Int × Unit))))))) (a1 : Int) : F51B self n a0 a1 = fnE [.val (.ref (.pair (.map (.int .i32) (.int .i64)) (.pair (.map (.int .i32) (.arr 2 (.int .i32))) (.pair (.map (.int .i32) (.int .i32)) (.pair (.map (.arr 2 (.int .i32)) (.int .i32)) (.pair (.map (.int .i32) (.int .i64)) (.pair (.int .i64) .unit))))))), .val (.int .i32)] (argDs [.ref (.pair (.map (.int .i32) (.int .i64)) (.pair (.map (.int .i32) (.arr 2 (.int .i32))) (.pair (.map (.int .i32) (.int .i32)) (.pair (.map (.arr 2 (.int .i32)) (.int .i32)) (.pair (.map (.int .i32) (.int .i64)) (.pair (.int .i64) .unit)))))), .int .i32] (a0, a1)) (fun st => ev (G51 self n) noInl lay51 48 c51 (P51 self n) st (fnK lay51 [.tmp 4] [.val (.ref (.pair (.map (.int .i32) (.int .i64)) (.pair (.map (.int .i32) (.arr 2 (.int .i32))) (.pair (.map (.int .i32) (.int .i32)) (.pair (.map (.arr 2 (.int .i32)) (.int .i32)) (.pair (.map (.int .i32) (.int .i64)) (.pair (.int .i64) .unit))))))), .val (.int .i32)] [.vec 21 (.int .i32)] [.slice (.int .i32)])) := by kernel_rfl

theorem TB51 (self : Option (List (Int × Int) × (List (Int × List Int) × (List (Int × Int) × (List (List Int × Int) × (List (Int × Int) × (Int × Unit)))))) → Int → Option ((List Int))) (hs : ToldIo Try.prog 51 [.val (.ref (.pair (.map (.int .i32) (.int .i64)) (.pair (.map (.int .i32) (.arr 2 (.int .i32))) (.pair (.map (.int .i32) (.int .i32)) (.pair (.map (.arr 2 (.int .i32)) (.int .i32)) (.pair (.map (.int .i32) (.int .i64)) (.pair (.int .i64) .unit))))))), .val (.int .i32)] [.vec 21 (.int .i32)] [.ref (.pair (.map (.int .i32) (.int .i64)) (.pair (.map (.int .i32) (.arr 2 (.int .i32))) (.pair (.map (.int .i32) (.int .i32)) (.pair (.map (.arr 2 (.int .i32)) (.int .i32)) (.pair (.map (.int .i32) (.int .i64)) (.pair (.int .i64) .unit)))))), .int .i32] [.slice (.int .i32)] (fun x => self x.1 x.2)) (n : Nat) : ToldIo Try.prog 51 [.val (.ref (.pair (.map (.int .i32) (.int .i64)) (.pair (.map (.int .i32) (.arr 2 (.int .i32))) (.pair (.map (.int .i32) (.int .i32)) (.pair (.map (.arr 2 (.int .i32)) (.int .i32)) (.pair (.map (.int .i32) (.int .i64)) (.pair (.int .i64) .unit))))))), .val (.int .i32)] [.vec 21 (.int .i32)] [.ref (.pair (.map (.int .i32) (.int .i64)) (.pair (.map (.int .i32) (.arr 2 (.int .i32))) (.pair (.map (.int .i32) (.int .i32)) (.pair (.map (.arr 2 (.int .i32)) (.int .i32)) (.pair (.map (.int .i32) (.int .i64)) (.pair (.int .i64) .unit)))))), .int .i32] [.slice (.int .i32)] (fun x => F51B self n x.1 x.2) := by
  rintro ⟨a0, a1⟩ r h
  exact fn_sound lay51_ok mixed (rvs := [.tmp 4]) (by kernel_rfl : Try.prog.funcs[51]? = some Try.f51) (by kernel_rfl : Try.f51.body = some c51) (by kernel_rfl) (by kernel_rfl) (by kernel_rfl) (GO51 self hs n) noInl_ok (K51 self n) ((E51 self n a0 a1).symm.trans h)

theorem T51 : ∀ n : Nat, ToldIo Try.prog 51 [.val (.ref (.pair (.map (.int .i32) (.int .i64)) (.pair (.map (.int .i32) (.arr 2 (.int .i32))) (.pair (.map (.int .i32) (.int .i32)) (.pair (.map (.arr 2 (.int .i32)) (.int .i32)) (.pair (.map (.int .i32) (.int .i64)) (.pair (.int .i64) .unit))))))), .val (.int .i32)] [.vec 21 (.int .i32)] [.ref (.pair (.map (.int .i32) (.int .i64)) (.pair (.map (.int .i32) (.arr 2 (.int .i32))) (.pair (.map (.int .i32) (.int .i32)) (.pair (.map (.arr 2 (.int .i32)) (.int .i32)) (.pair (.map (.int .i32) (.int .i64)) (.pair (.int .i64) .unit)))))), .int .i32] [.slice (.int .i32)] (fun x => F51 n x.1 x.2)
  | 0 => fun _ _ h => by cases h
  | n + 1 => TB51 (F51 n) (T51 n) n

/-! ### orthoepy/orthoepyref07.Order -/

def F52l1F (n : Nat) (rF52l0 : Option (List (Int × Int) × (List (Int × List Int) × (List (Int × Int) × (List (List Int × Int) × (List (Int × Int) × (Int × Unit)))))) → List Int → Int → Option ((List Int))) (rF52l1 : Option (List (Int × Int) × (List (Int × List Int) × (List (Int × Int) × (List (List Int × Int) × (List (Int × Int) × (Int × Unit)))))) → List Int → Int → Int → Option ((List Int))) (t0 : Option (List (Int × Int) × (List (Int × List Int) × (List (Int × Int) × (List (List Int × Int) × (List (Int × Int) × (Int × Unit))))))) (t5 : List Int) (t6 : Int) (t7 : Int) : Option ((List Int)) :=
  (bif (decide (t7 > 0)) then
    (bif (Option.isSome t0) then
    (bif inB (IntKind.wrap .i64 (t7 - 1)) (t5).length then
    (bif (Option.isSome t0) then
    (bif inB t7 (t5).length then
    (bif ((Option.getD (mapGet (Ty.beq (.int .i32)) (Option.getD t0 (Ty.dflt (.pair (.map (.int .i32) (.int .i64)) (.pair (.map (.int .i32) (.arr 2 (.int .i32))) (.pair (.map (.int .i32) (.int .i32)) (.pair (.map (.arr 2 (.int .i32)) (.int .i32)) (.pair (.map (.int .i32) (.int .i64)) (.pair (.int .i64) .unit)))))))).1 ((t5).getD (Int.toNat (IntKind.wrap .i64 (t7 - 1))) (Ty.dflt (.int .i32)))) 0) == 0) then
      rF52l0 t0 t5 (IntKind.wrap .i64 (t6 + 1))
    else
      (bif ((Option.getD (mapGet (Ty.beq (.int .i32)) (Option.getD t0 (Ty.dflt (.pair (.map (.int .i32) (.int .i64)) (.pair (.map (.int .i32) (.arr 2 (.int .i32))) (.pair (.map (.int .i32) (.int .i32)) (.pair (.map (.arr 2 (.int .i32)) (.int .i32)) (.pair (.map (.int .i32) (.int .i64)) (.pair (.int .i64) .unit)))))))).1 ((t5).getD (Int.toNat t7) (Ty.dflt (.int .i32)))) 0) == 0) then
        rF52l0 t0 t5 (IntKind.wrap .i64 (t6 + 1))
      else
        (bif (decide ((Option.getD (mapGet (Ty.beq (.int .i32)) (Option.getD t0 (Ty.dflt (.pair (.map (.int .i32) (.int .i64)) (.pair (.map (.int .i32) (.arr 2 (.int .i32))) (.pair (.map (.int .i32) (.int .i32)) (.pair (.map (.arr 2 (.int .i32)) (.int .i32)) (.pair (.map (.int .i32) (.int .i64)) (.pair (.int .i64) .unit)))))))).1 ((t5).getD (Int.toNat (IntKind.wrap .i64 (t7 - 1))) (Ty.dflt (.int .i32)))) 0) ≤ (Option.getD (mapGet (Ty.beq (.int .i32)) (Option.getD t0 (Ty.dflt (.pair (.map (.int .i32) (.int .i64)) (.pair (.map (.int .i32) (.arr 2 (.int .i32))) (.pair (.map (.int .i32) (.int .i32)) (.pair (.map (.arr 2 (.int .i32)) (.int .i32)) (.pair (.map (.int .i32) (.int .i64)) (.pair (.int .i64) .unit)))))))).1 ((t5).getD (Int.toNat t7) (Ty.dflt (.int .i32)))) 0))) then
          rF52l0 t0 t5 (IntKind.wrap .i64 (t6 + 1))
        else
          (bif inB t7 (t5).length then
          (bif inB (IntKind.wrap .i64 (t7 - 1)) (t5).length then
          (bif inB (IntKind.wrap .i64 (t7 - 1)) (t5).length then
          (bif inB t7 (((t5).set (Int.toNat (IntKind.wrap .i64 (t7 - 1))) ((t5).getD (Int.toNat t7) (Ty.dflt (.int .i32))))).length then
          rF52l1 t0 ((((t5).set (Int.toNat (IntKind.wrap .i64 (t7 - 1))) ((t5).getD (Int.toNat t7) (Ty.dflt (.int .i32))))).set (Int.toNat t7) ((t5).getD (Int.toNat (IntKind.wrap .i64 (t7 - 1))) (Ty.dflt (.int .i32)))) t6 (IntKind.wrap .i64 (t7 - 1))
          else none)
          else none)
          else none)
          else none))))
    else none)
    else none)
    else none)
    else none)
  else
    rF52l0 t0 t5 (IntKind.wrap .i64 (t6 + 1)))
def F52l1 (n : Nat) (rF52l0 : Option (List (Int × Int) × (List (Int × List Int) × (List (Int × Int) × (List (List Int × Int) × (List (Int × Int) × (Int × Unit)))))) → List Int → Int → Option ((List Int))) : Nat → Option (List (Int × Int) × (List (Int × List Int) × (List (Int × Int) × (List (List Int × Int) × (List (Int × Int) × (Int × Unit)))))) → List Int → Int → Int → Option ((List Int))
  | 0, _, _, _, _ => none
  | m + 1, t0, t5, t6, t7 => F52l1F n rF52l0 (F52l1 n rF52l0 m) t0 t5 t6 t7

def F52l0F (n : Nat) (rF52l0 : Option (List (Int × Int) × (List (Int × List Int) × (List (Int × Int) × (List (List Int × Int) × (List (Int × Int) × (Int × Unit)))))) → List Int → Int → Option ((List Int))) (t0 : Option (List (Int × Int) × (List (Int × List Int) × (List (Int × Int) × (List (List Int × Int) × (List (Int × Int) × (Int × Unit))))))) (t5 : List Int) (t6 : Int) : Option ((List Int)) :=
  (bif (decide (t6 < ((t5).length : Int))) then
    F52l1 n rF52l0 n t0 t5 t6 t6
  else
    some t5)
def F52l0 (n : Nat) : Nat → Option (List (Int × Int) × (List (Int × List Int) × (List (Int × Int) × (List (List Int × Int) × (List (Int × Int) × (Int × Unit)))))) → List Int → Int → Option ((List Int))
  | 0, _, _, _ => none
  | m + 1, t0, t5, t6 => F52l0F n (F52l0 n m) t0 t5 t6

def F52 (n : Nat) (a0 : Option (List (Int × Int) × (List (Int × List Int) × (List (Int × Int) × (List (List Int × Int) × (List (Int × Int) × (Int × Unit))))))) (a1 : List Int) : Option ((List Int)) :=
  (bif (decide (((([] : List Int)).length + (a1).length) * 4 ≤ maxRoom) && decide ((([] : List Int)).length + (a1).length ≤ maxRoom)) then
  F52l0 n n a0 (([] : List Int) ++ a1) 1
  else none)

noncomputable def c52 : Code := Try.f52.body.getD .skip

noncomputable def G52 (n : Nat) : Ctx (Res [.slice (.int .i32)]) := noFns

theorem GO52 (n : Nat) : CtxOK Try.prog lay0 (G52 n) := noFns_ok

noncomputable def P52 (n : Nat) : Pl (Res [.slice (.int .i32)]) :=
  (.two .leaf (.two .leaf (.two (.two .leaf (.one (.loop [.val (.tmp 0) (.ref (.pair (.map (.int .i32) (.int .i64)) (.pair (.map (.int .i32) (.arr 2 (.int .i32))) (.pair (.map (.int .i32) (.int .i32)) (.pair (.map (.arr 2 (.int .i32)) (.int .i32)) (.pair (.map (.int .i32) (.int .i64)) (.pair (.int .i64) .unit))))))), .vec (.tmp 5) 20000000 21 (.int .i32), .val (.tmp 6) (.int .i64)] n (fun m x => F52l0 n m x.1 x.2.1 x.2.2.1) (fun r => let rF52l0 : Option (List (Int × Int) × (List (Int × List Int) × (List (Int × Int) × (List (List Int × Int) × (List (Int × Int) × (Int × Unit)))))) → List Int → Int → Option ((List Int)) := (fun y0 y1 y2 => r (y0, y1, y2, ())); (.two .leaf (.two (.one (.two .leaf (.one (.loop [.val (.tmp 0) (.ref (.pair (.map (.int .i32) (.int .i64)) (.pair (.map (.int .i32) (.arr 2 (.int .i32))) (.pair (.map (.int .i32) (.int .i32)) (.pair (.map (.arr 2 (.int .i32)) (.int .i32)) (.pair (.map (.int .i32) (.int .i64)) (.pair (.int .i64) .unit))))))), .vec (.tmp 5) 20000000 21 (.int .i32), .val (.tmp 6) (.int .i64), .val (.tmp 7) (.int .i64)] n (fun m x => F52l1 n rF52l0 m x.1 x.2.1 x.2.2.1 x.2.2.2.1) (fun _ => .leaf))))) .leaf)))))) .leaf)))

theorem K52 (n : Nat) : PlOK (G52 n) noInl lay0 71 (P52 n) c52 (fnK lay0 [.tmp 4] [.val (.ref (.pair (.map (.int .i32) (.int .i64)) (.pair (.map (.int .i32) (.arr 2 (.int .i32))) (.pair (.map (.int .i32) (.int .i32)) (.pair (.map (.arr 2 (.int .i32)) (.int .i32)) (.pair (.map (.int .i32) (.int .i64)) (.pair (.int .i64) .unit))))))), .val (.slice (.int .i32))] [.val (.slice (.int .i32))] [.slice (.int .i32)]) :=
  ⟨trivial, ⟨trivial, ⟨⟨trivial, ⟨by kernel_rfl, fun x => by kernel_rfl, fun m => ⟨fun x => by kernel_rfl, ⟨trivial, ⟨⟨trivial, ⟨by kernel_rfl, fun x => by kernel_rfl, fun m => ⟨fun x => by kernel_rfl, trivial⟩⟩⟩, trivial⟩⟩⟩⟩⟩, trivial⟩⟩⟩

theorem E52 (n : Nat) (a0 : Option (List (Int × Int) × (List (Int × List Int) × (List (Int × Int) × (List (List Int × Int) × (List (Int × Int) × (Int × Unit))))))) (a1 : List Int) : F52 n a0 a1 = fnE [.val (.ref (.pair (.map (.int .i32) (.int .i64)) (.pair (.map (.int .i32) (.arr 2 (.int .i32))) (.pair (.map (.int .i32) (.int .i32)) (.pair (.map (.arr 2 (.int .i32)) (.int .i32)) (.pair (.map (.int .i32) (.int .i64)) (.pair (.int .i64) .unit))))))), .val (.slice (.int .i32))] (argDs [.ref (.pair (.map (.int .i32) (.int .i64)) (.pair (.map (.int .i32) (.arr 2 (.int .i32))) (.pair (.map (.int .i32) (.int .i32)) (.pair (.map (.arr 2 (.int .i32)) (.int .i32)) (.pair (.map (.int .i32) (.int .i64)) (.pair (.int .i64) .unit)))))), .slice (.int .i32)] (a0, a1)) (fun st => ev (G52 n) noInl lay0 71 c52 (P52 n) st (fnK lay0 [.tmp 4] [.val (.ref (.pair (.map (.int .i32) (.int .i64)) (.pair (.map (.int .i32) (.arr 2 (.int .i32))) (.pair (.map (.int .i32) (.int .i32)) (.pair (.map (.arr 2 (.int .i32)) (.int .i32)) (.pair (.map (.int .i32) (.int .i64)) (.pair (.int .i64) .unit))))))), .val (.slice (.int .i32))] [.val (.slice (.int .i32))] [.slice (.int .i32)])) := by kernel_rfl

theorem T52 (n : Nat) : Told Try.prog 52 [.ref (.pair (.map (.int .i32) (.int .i64)) (.pair (.map (.int .i32) (.arr 2 (.int .i32))) (.pair (.map (.int .i32) (.int .i32)) (.pair (.map (.arr 2 (.int .i32)) (.int .i32)) (.pair (.map (.int .i32) (.int .i64)) (.pair (.int .i64) .unit)))))), .slice (.int .i32)] [.slice (.int .i32)] (fun x => F52 n x.1 x.2) := by
  rintro ⟨a0, a1⟩ r h
  exact calls_plain (fn_sound lay0_ok mixed (rvs := [.tmp 4]) (by kernel_rfl : Try.prog.funcs[52]? = some Try.f52) (by kernel_rfl : Try.f52.body = some c52) (by kernel_rfl) (by kernel_rfl) (by kernel_rfl) (GO52 n) noInl_ok (K52 n) ((E52 n a0 a1).symm.trans h)) rfl rfl rfl rfl

/-! ### orthoepy/orthoepyref07.All -/

def F49l0F (n : Nat) (rF49l0 : Option (List (Int × Int) × (List (Int × List Int) × (List (Int × Int) × (List (List Int × Int) × (List (Int × Int) × (Int × Unit)))))) → List Int → List Int → Int → Option ((List Int))) (t0 : Option (List (Int × Int) × (List (Int × List Int) × (List (Int × Int) × (List (List Int × Int) × (List (Int × Int) × (Int × Unit))))))) (t1 : List Int) (t5 : List Int) (t6 : Int) : Option ((List Int)) :=
  (bif (decide (t6 < ((t1).length : Int))) then
    (bif inB t6 (t1).length then
    (match F51 n t0 ((t1).getD (Int.toNat t6) (Ty.dflt (.int .i32))) with
    | some r1 =>
    (bif (decide (((t5).length + (r1).length) * 4 ≤ maxRoom) && decide ((t5).length + (r1).length ≤ maxRoom)) then
    rF49l0 t0 t1 (t5 ++ r1) (IntKind.wrap .i64 (t6 + 1))
    else none)
    | none => none)
    else none)
  else
    (match F52 n t0 t5 with
    | some r2 =>
    some r2
    | none => none))
def F49l0 (n : Nat) : Nat → Option (List (Int × Int) × (List (Int × List Int) × (List (Int × Int) × (List (List Int × Int) × (List (Int × Int) × (Int × Unit)))))) → List Int → List Int → Int → Option ((List Int))
  | 0, _, _, _, _ => none
  | m + 1, t0, t1, t5, t6 => F49l0F n (F49l0 n m) t0 t1 t5 t6

def F49 (n : Nat) (a0 : Option (List (Int × Int) × (List (Int × List Int) × (List (Int × Int) × (List (List Int × Int) × (List (Int × Int) × (Int × Unit))))))) (a1 : List Int) : Option ((List Int)) :=
  F49l0 n n a0 a1 ([] : List Int) 0

noncomputable def lay49 : Lay := layOf layL [(51, .io [.val (.ref (.pair (.map (.int .i32) (.int .i64)) (.pair (.map (.int .i32) (.arr 2 (.int .i32))) (.pair (.map (.int .i32) (.int .i32)) (.pair (.map (.arr 2 (.int .i32)) (.int .i32)) (.pair (.map (.int .i32) (.int .i64)) (.pair (.int .i64) .unit))))))), .val (.int .i32)] [.vec 21 (.int .i32)])]
theorem lay49_ok : LayOK Try.prog lay49 := layOf_ok layAll (by
  intro p hp
  simp only [List.mem_cons, List.not_mem_nil, or_false] at hp
  rcases hp with rfl
  · exact trivial) layEq layKeys

noncomputable def c49 : Code := Try.f49.body.getD .skip

noncomputable def G49 (n : Nat) : Ctx (Res [.slice (.int .i32)]) := entIo 51 [.ref (.pair (.map (.int .i32) (.int .i64)) (.pair (.map (.int .i32) (.arr 2 (.int .i32))) (.pair (.map (.int .i32) (.int .i32)) (.pair (.map (.arr 2 (.int .i32)) (.int .i32)) (.pair (.map (.int .i32) (.int .i64)) (.pair (.int .i64) .unit)))))), .int .i32] [.slice (.int .i32)] (fun x => F51 n x.1 x.2) (ent 52 [.ref (.pair (.map (.int .i32) (.int .i64)) (.pair (.map (.int .i32) (.arr 2 (.int .i32))) (.pair (.map (.int .i32) (.int .i32)) (.pair (.map (.arr 2 (.int .i32)) (.int .i32)) (.pair (.map (.int .i32) (.int .i64)) (.pair (.int .i64) .unit)))))), .slice (.int .i32)] [.slice (.int .i32)] (fun x => F52 n x.1 x.2) (noFns))

theorem GO49 (n : Nat) : CtxOK Try.prog lay49 (G49 n) := ent_okIo (ps := [.val (.ref (.pair (.map (.int .i32) (.int .i64)) (.pair (.map (.int .i32) (.arr 2 (.int .i32))) (.pair (.map (.int .i32) (.int .i32)) (.pair (.map (.arr 2 (.int .i32)) (.int .i32)) (.pair (.map (.int .i32) (.int .i64)) (.pair (.int .i64) .unit))))))), .val (.int .i32)]) (rss := [.vec 21 (.int .i32)]) (T51 n) (fun _ _ h => h) (ent_ok (T52 n) (fun _ _ h => h) (noFns_ok))

noncomputable def P49 (n : Nat) : Pl (Res [.slice (.int .i32)]) :=
  (.two .leaf (.two .leaf (.two (.two .leaf (.one (.loop [.val (.tmp 0) (.ref (.pair (.map (.int .i32) (.int .i64)) (.pair (.map (.int .i32) (.arr 2 (.int .i32))) (.pair (.map (.int .i32) (.int .i32)) (.pair (.map (.arr 2 (.int .i32)) (.int .i32)) (.pair (.map (.int .i32) (.int .i64)) (.pair (.int .i64) .unit))))))), .val (.tmp 1) (.slice (.int .i32)), .vec (.tmp 5) 20000000 21 (.int .i32), .val (.tmp 6) (.int .i64)] n (fun m x => F49l0 n m x.1 x.2.1 x.2.2.1 x.2.2.2.1) (fun _ => .leaf)))) .leaf)))

theorem K49 (n : Nat) : PlOK (G49 n) noInl lay49 24 (P49 n) c49 (fnK lay49 [.tmp 4] [.val (.ref (.pair (.map (.int .i32) (.int .i64)) (.pair (.map (.int .i32) (.arr 2 (.int .i32))) (.pair (.map (.int .i32) (.int .i32)) (.pair (.map (.arr 2 (.int .i32)) (.int .i32)) (.pair (.map (.int .i32) (.int .i64)) (.pair (.int .i64) .unit))))))), .val (.slice (.int .i32))] [.val (.slice (.int .i32))] [.slice (.int .i32)]) :=
  ⟨trivial, ⟨trivial, ⟨⟨trivial, ⟨by kernel_rfl, fun x => by kernel_rfl, fun m => ⟨fun x => by kernel_rfl, trivial⟩⟩⟩, trivial⟩⟩⟩

theorem E49 (n : Nat) (a0 : Option (List (Int × Int) × (List (Int × List Int) × (List (Int × Int) × (List (List Int × Int) × (List (Int × Int) × (Int × Unit))))))) (a1 : List Int) : F49 n a0 a1 = fnE [.val (.ref (.pair (.map (.int .i32) (.int .i64)) (.pair (.map (.int .i32) (.arr 2 (.int .i32))) (.pair (.map (.int .i32) (.int .i32)) (.pair (.map (.arr 2 (.int .i32)) (.int .i32)) (.pair (.map (.int .i32) (.int .i64)) (.pair (.int .i64) .unit))))))), .val (.slice (.int .i32))] (argDs [.ref (.pair (.map (.int .i32) (.int .i64)) (.pair (.map (.int .i32) (.arr 2 (.int .i32))) (.pair (.map (.int .i32) (.int .i32)) (.pair (.map (.arr 2 (.int .i32)) (.int .i32)) (.pair (.map (.int .i32) (.int .i64)) (.pair (.int .i64) .unit)))))), .slice (.int .i32)] (a0, a1)) (fun st => ev (G49 n) noInl lay49 24 c49 (P49 n) st (fnK lay49 [.tmp 4] [.val (.ref (.pair (.map (.int .i32) (.int .i64)) (.pair (.map (.int .i32) (.arr 2 (.int .i32))) (.pair (.map (.int .i32) (.int .i32)) (.pair (.map (.arr 2 (.int .i32)) (.int .i32)) (.pair (.map (.int .i32) (.int .i64)) (.pair (.int .i64) .unit))))))), .val (.slice (.int .i32))] [.val (.slice (.int .i32))] [.slice (.int .i32)])) := by kernel_rfl

theorem T49 (n : Nat) : Told Try.prog 49 [.ref (.pair (.map (.int .i32) (.int .i64)) (.pair (.map (.int .i32) (.arr 2 (.int .i32))) (.pair (.map (.int .i32) (.int .i32)) (.pair (.map (.arr 2 (.int .i32)) (.int .i32)) (.pair (.map (.int .i32) (.int .i64)) (.pair (.int .i64) .unit)))))), .slice (.int .i32)] [.slice (.int .i32)] (fun x => F49 n x.1 x.2) := by
  rintro ⟨a0, a1⟩ r h
  exact calls_plain (fn_sound lay49_ok mixed (rvs := [.tmp 4]) (by kernel_rfl : Try.prog.funcs[49]? = some Try.f49) (by kernel_rfl : Try.f49.body = some c49) (by kernel_rfl) (by kernel_rfl) (by kernel_rfl) (GO49 n) noInl_ok (K49 n) ((E49 n a0 a1).symm.trans h)) rfl rfl rfl rfl

/-! ### orthoepy/orthoepyref06.Join -/

def F53 (n : Nat) (a0 : Int) (a1 : Int) : Option (Int × Bool) :=
  (match F54 n a0 with
  | some r1 =>
  (bif (r1 == 1) then
    (match F54 n a1 with
    | some r2 =>
    (bif (r2 == 2) then
      some ((IntKind.wrap .i32 ((IntKind.wrap .i32 (44032 + (IntKind.wrap .i32 ((IntKind.wrap .i32 (a0 - 4352)) * 588)))) + (IntKind.wrap .i32 ((IntKind.wrap .i32 (a1 - 4449)) * 28)))), true)
    else
      (match F54 n a0 with
      | some r3 =>
      (bif (r3 == 4) then
        (match F54 n a1 with
        | some r4 =>
        (bif (r4 == 3) then
          some ((IntKind.wrap .i32 ((IntKind.wrap .i32 (a0 + a1)) - 4519)), true)
        else
          some (0, false))
        | none => none)
      else
        some (0, false))
      | none => none))
    | none => none)
  else
    (match F54 n a0 with
    | some r5 =>
    (bif (r5 == 4) then
      (match F54 n a1 with
      | some r6 =>
      (bif (r6 == 3) then
        some ((IntKind.wrap .i32 ((IntKind.wrap .i32 (a0 + a1)) - 4519)), true)
      else
        some (0, false))
      | none => none)
    else
      some (0, false))
    | none => none))
  | none => none)

noncomputable def c53 : Code := Try.f53.body.getD .skip

noncomputable def G53 (n : Nat) : Ctx (Res [.int .i32, .bool]) := ent 54 [.int .i32] [.int .i64] (fun x => F54 n x) (noFns)

theorem GO53 (n : Nat) : CtxOK Try.prog lay0 (G53 n) := ent_ok (T54 n) (fun _ _ h => h) (noFns_ok)

noncomputable def P53 (n : Nat) : Pl (Res [.int .i32, .bool]) :=
  .leaf

theorem K53 (n : Nat) : PlOK (G53 n) noInl lay0 36 (P53 n) c53 (fnK lay0 [.tmp 4, .tmp 5] [.val (.int .i32), .val (.int .i32)] [.val (.int .i32), .val .bool] [.int .i32, .bool]) :=
  trivial

theorem E53 (n : Nat) (a0 : Int) (a1 : Int) : F53 n a0 a1 = fnE [.val (.int .i32), .val (.int .i32)] (argDs [.int .i32, .int .i32] (a0, a1)) (fun st => ev (G53 n) noInl lay0 36 c53 (P53 n) st (fnK lay0 [.tmp 4, .tmp 5] [.val (.int .i32), .val (.int .i32)] [.val (.int .i32), .val .bool] [.int .i32, .bool])) := by kernel_rfl

theorem T53 (n : Nat) : Told Try.prog 53 [.int .i32, .int .i32] [.int .i32, .bool] (fun x => F53 n x.1 x.2) := by
  rintro ⟨a0, a1⟩ r h
  exact calls_plain (fn_sound lay0_ok mixed (rvs := [.tmp 4, .tmp 5]) (by kernel_rfl : Try.prog.funcs[53]? = some Try.f53) (by kernel_rfl : Try.f53.body = some c53) (by kernel_rfl) (by kernel_rfl) (by kernel_rfl) (GO53 n) noInl_ok (K53 n) ((E53 n a0 a1).symm.trans h)) rfl rfl rfl rfl

/-! ### orthoepy/orthoepyref08.Two -/

def F50 (n : Nat) (a0 : Option (List (Int × Int) × (List (Int × List Int) × (List (Int × Int) × (List (List Int × Int) × (List (Int × Int) × (Int × Unit))))))) (a1 : Int) (a2 : Int) : Option (Int × Bool) :=
  (match F53 n a1 a2 with
  | some r1 =>
  (bif r1.2 then
    some (r1.1, true)
  else
    (bif (Option.isSome a0) then
    some ((Option.getD (mapGet (Ty.beq (.arr 2 (.int .i32))) (Option.getD a0 (Ty.dflt (.pair (.map (.int .i32) (.int .i64)) (.pair (.map (.int .i32) (.arr 2 (.int .i32))) (.pair (.map (.int .i32) (.int .i32)) (.pair (.map (.arr 2 (.int .i32)) (.int .i32)) (.pair (.map (.int .i32) (.int .i64)) (.pair (.int .i64) .unit)))))))).2.2.2.1 ([a1, a2] : List Int)) 0), (Option.isSome (mapGet (Ty.beq (.arr 2 (.int .i32))) (Option.getD a0 (Ty.dflt (.pair (.map (.int .i32) (.int .i64)) (.pair (.map (.int .i32) (.arr 2 (.int .i32))) (.pair (.map (.int .i32) (.int .i32)) (.pair (.map (.arr 2 (.int .i32)) (.int .i32)) (.pair (.map (.int .i32) (.int .i64)) (.pair (.int .i64) .unit)))))))).2.2.2.1 ([a1, a2] : List Int))))
    else none))
  | none => none)

noncomputable def c50 : Code := Try.f50.body.getD .skip

noncomputable def G50 (n : Nat) : Ctx (Res [.int .i32, .bool]) := ent 53 [.int .i32, .int .i32] [.int .i32, .bool] (fun x => F53 n x.1 x.2) (noFns)

theorem GO50 (n : Nat) : CtxOK Try.prog lay0 (G50 n) := ent_ok (T53 n) (fun _ _ h => h) (noFns_ok)

noncomputable def P50 (n : Nat) : Pl (Res [.int .i32, .bool]) :=
  .leaf

theorem K50 (n : Nat) : PlOK (G50 n) noInl lay0 33 (P50 n) c50 (fnK lay0 [.tmp 6, .tmp 7] [.val (.ref (.pair (.map (.int .i32) (.int .i64)) (.pair (.map (.int .i32) (.arr 2 (.int .i32))) (.pair (.map (.int .i32) (.int .i32)) (.pair (.map (.arr 2 (.int .i32)) (.int .i32)) (.pair (.map (.int .i32) (.int .i64)) (.pair (.int .i64) .unit))))))), .val (.int .i32), .val (.int .i32)] [.val (.int .i32), .val .bool] [.int .i32, .bool]) :=
  trivial

theorem E50 (n : Nat) (a0 : Option (List (Int × Int) × (List (Int × List Int) × (List (Int × Int) × (List (List Int × Int) × (List (Int × Int) × (Int × Unit))))))) (a1 : Int) (a2 : Int) : F50 n a0 a1 a2 = fnE [.val (.ref (.pair (.map (.int .i32) (.int .i64)) (.pair (.map (.int .i32) (.arr 2 (.int .i32))) (.pair (.map (.int .i32) (.int .i32)) (.pair (.map (.arr 2 (.int .i32)) (.int .i32)) (.pair (.map (.int .i32) (.int .i64)) (.pair (.int .i64) .unit))))))), .val (.int .i32), .val (.int .i32)] (argDs [.ref (.pair (.map (.int .i32) (.int .i64)) (.pair (.map (.int .i32) (.arr 2 (.int .i32))) (.pair (.map (.int .i32) (.int .i32)) (.pair (.map (.arr 2 (.int .i32)) (.int .i32)) (.pair (.map (.int .i32) (.int .i64)) (.pair (.int .i64) .unit)))))), .int .i32, .int .i32] (a0, a1, a2)) (fun st => ev (G50 n) noInl lay0 33 c50 (P50 n) st (fnK lay0 [.tmp 6, .tmp 7] [.val (.ref (.pair (.map (.int .i32) (.int .i64)) (.pair (.map (.int .i32) (.arr 2 (.int .i32))) (.pair (.map (.int .i32) (.int .i32)) (.pair (.map (.arr 2 (.int .i32)) (.int .i32)) (.pair (.map (.int .i32) (.int .i64)) (.pair (.int .i64) .unit))))))), .val (.int .i32), .val (.int .i32)] [.val (.int .i32), .val .bool] [.int .i32, .bool])) := by kernel_rfl

theorem T50 (n : Nat) : Told Try.prog 50 [.ref (.pair (.map (.int .i32) (.int .i64)) (.pair (.map (.int .i32) (.arr 2 (.int .i32))) (.pair (.map (.int .i32) (.int .i32)) (.pair (.map (.arr 2 (.int .i32)) (.int .i32)) (.pair (.map (.int .i32) (.int .i64)) (.pair (.int .i64) .unit)))))), .int .i32, .int .i32] [.int .i32, .bool] (fun x => F50 n x.1 x.2.1 x.2.2) := by
  rintro ⟨a0, a1, a2⟩ r h
  exact calls_plain (fn_sound lay0_ok mixed (rvs := [.tmp 6, .tmp 7]) (by kernel_rfl : Try.prog.funcs[50]? = some Try.f50) (by kernel_rfl : Try.f50.body = some c50) (by kernel_rfl) (by kernel_rfl) (by kernel_rfl) (GO50 n) noInl_ok (K50 n) ((E50 n a0 a1 a2).symm.trans h)) rfl rfl rfl rfl

/-! ### orthoepy/orthoepyref08.Compose -/

def F48l3F (n : Nat) (rF48l0 : Option (List (Int × Int) × (List (Int × List Int) × (List (Int × Int) × (List (List Int × Int) × (List (Int × Int) × (Int × Unit)))))) → List Int → List Int → Int → Int → Option ((List Int))) (rF48l3 : Option (List (Int × Int) × (List (Int × List Int) × (List (Int × Int) × (List (List Int × Int) × (List (Int × Int) × (Int × Unit)))))) → List Int → List Int → Int → Int → Int → Option ((List Int))) (t0 : Option (List (Int × Int) × (List (Int × List Int) × (List (Int × Int) × (List (List Int × Int) × (List (Int × Int) × (Int × Unit))))))) (t1 : List Int) (t5 : List Int) (t6 : Int) (t7 : Int) (t14 : Int) : Option ((List Int)) :=
  (bif (decide (t14 ≥ 0)) then
    (bif (Option.isSome t0) then
    (bif inB t6 (t5).length then
    (bif (decide ((Option.getD (mapGet (Ty.beq (.int .i32)) (Option.getD t0 (Ty.dflt (.pair (.map (.int .i32) (.int .i64)) (.pair (.map (.int .i32) (.arr 2 (.int .i32))) (.pair (.map (.int .i32) (.int .i32)) (.pair (.map (.arr 2 (.int .i32)) (.int .i32)) (.pair (.map (.int .i32) (.int .i64)) (.pair (.int .i64) .unit)))))))).1 ((t5).getD (Int.toNat t6) (Ty.dflt (.int .i32)))) 0) > 0)) then
      rF48l3 t0 t1 t5 t14 t7 (IntKind.wrap .i64 (t14 - 1))
    else
      rF48l0 t0 t1 t5 t6 (IntKind.wrap .i64 (t7 + 1)))
    else none)
    else none)
  else
    rF48l0 t0 t1 t5 t6 (IntKind.wrap .i64 (t7 + 1)))
def F48l3 (n : Nat) (rF48l0 : Option (List (Int × Int) × (List (Int × List Int) × (List (Int × Int) × (List (List Int × Int) × (List (Int × Int) × (Int × Unit)))))) → List Int → List Int → Int → Int → Option ((List Int))) : Nat → Option (List (Int × Int) × (List (Int × List Int) × (List (Int × Int) × (List (List Int × Int) × (List (Int × Int) × (Int × Unit)))))) → List Int → List Int → Int → Int → Int → Option ((List Int))
  | 0, _, _, _, _, _, _ => none
  | m + 1, t0, t1, t5, t6, t7, t14 => F48l3F n rF48l0 (F48l3 n rF48l0 m) t0 t1 t5 t6 t7 t14

def F48j1 (n : Nat) (rF48l0 : Option (List (Int × Int) × (List (Int × List Int) × (List (Int × Int) × (List (List Int × Int) × (List (Int × Int) × (Int × Unit)))))) → List Int → List Int → Int → Int → Option ((List Int))) (t0 : Option (List (Int × Int) × (List (Int × List Int) × (List (Int × Int) × (List (List Int × Int) × (List (Int × Int) × (Int × Unit))))))) (t1 : List Int) (t5 : List Int) (t6 : Int) (t7 : Int) (t8 : Int) (t9 : Int) : Option ((List Int)) :=
  (bif (decide (((t5).length + (([t8] : List Int)).length) * 4 ≤ maxRoom) && decide ((t5).length + (([t8] : List Int)).length ≤ maxRoom)) then
  (bif (t9 == 0) then
    rF48l0 t0 t1 (t5 ++ ([t8] : List Int)) (IntKind.wrap .i64 ((((t5 ++ ([t8] : List Int))).length : Int) - 1)) (IntKind.wrap .i64 (t7 + 1))
  else
    rF48l0 t0 t1 (t5 ++ ([t8] : List Int)) t6 (IntKind.wrap .i64 (t7 + 1)))
  else none)

def F48j2 (n : Nat) (rF48l0 : Option (List (Int × Int) × (List (Int × List Int) × (List (Int × Int) × (List (List Int × Int) × (List (Int × Int) × (Int × Unit)))))) → List Int → List Int → Int → Int → Option ((List Int))) (t0 : Option (List (Int × Int) × (List (Int × List Int) × (List (Int × Int) × (List (List Int × Int) × (List (Int × Int) × (Int × Unit))))))) (t1 : List Int) (t5 : List Int) (t6 : Int) (t7 : Int) (t8 : Int) (t9 : Int) (t11 : Bool) : Option ((List Int)) :=
  (bif inB t6 (t5).length then
  (match F50 n t0 ((t5).getD (Int.toNat t6) (Ty.dflt (.int .i32))) t8 with
  | some r1 =>
  (bif r1.2 then
    (bif (!t11) then
      (bif inB t6 (t5).length then
      F48l3 n rF48l0 n t0 t1 ((t5).set (Int.toNat t6) r1.1) t6 t7 (IntKind.wrap .i64 (((((t5).set (Int.toNat t6) r1.1)).length : Int) - 1))
      else none)
    else
      F48j1 n rF48l0 t0 t1 t5 t6 t7 t8 t9)
  else
    F48j1 n rF48l0 t0 t1 t5 t6 t7 t8 t9)
  | none => none)
  else none)

def F48l0F (n : Nat) (rF48l0 : Option (List (Int × Int) × (List (Int × List Int) × (List (Int × Int) × (List (List Int × Int) × (List (Int × Int) × (Int × Unit)))))) → List Int → List Int → Int → Int → Option ((List Int))) (t0 : Option (List (Int × Int) × (List (Int × List Int) × (List (Int × Int) × (List (List Int × Int) × (List (Int × Int) × (Int × Unit))))))) (t1 : List Int) (t5 : List Int) (t6 : Int) (t7 : Int) : Option ((List Int)) :=
  (bif (decide (t7 < ((t1).length : Int))) then
    (bif inB t7 (t1).length then
    (bif (Option.isSome t0) then
    (bif (decide (t6 ≥ 0)) then
      (bif (Option.isSome t0) then
      (bif inB (IntKind.wrap .i64 (((t5).length : Int) - 1)) (t5).length then
      (bif (decide ((IntKind.wrap .i64 (((t5).length : Int) - 1)) > t6)) then
        (bif ((Option.getD (mapGet (Ty.beq (.int .i32)) (Option.getD t0 (Ty.dflt (.pair (.map (.int .i32) (.int .i64)) (.pair (.map (.int .i32) (.arr 2 (.int .i32))) (.pair (.map (.int .i32) (.int .i32)) (.pair (.map (.arr 2 (.int .i32)) (.int .i32)) (.pair (.map (.int .i32) (.int .i64)) (.pair (.int .i64) .unit)))))))).1 ((t5).getD (Int.toNat (IntKind.wrap .i64 (((t5).length : Int) - 1))) (Ty.dflt (.int .i32)))) 0) == 0) then
          F48j2 n rF48l0 t0 t1 t5 t6 t7 ((t1).getD (Int.toNat t7) (Ty.dflt (.int .i32))) (Option.getD (mapGet (Ty.beq (.int .i32)) (Option.getD t0 (Ty.dflt (.pair (.map (.int .i32) (.int .i64)) (.pair (.map (.int .i32) (.arr 2 (.int .i32))) (.pair (.map (.int .i32) (.int .i32)) (.pair (.map (.arr 2 (.int .i32)) (.int .i32)) (.pair (.map (.int .i32) (.int .i64)) (.pair (.int .i64) .unit)))))))).1 ((t1).getD (Int.toNat t7) (Ty.dflt (.int .i32)))) 0) true
        else
          F48j2 n rF48l0 t0 t1 t5 t6 t7 ((t1).getD (Int.toNat t7) (Ty.dflt (.int .i32))) (Option.getD (mapGet (Ty.beq (.int .i32)) (Option.getD t0 (Ty.dflt (.pair (.map (.int .i32) (.int .i64)) (.pair (.map (.int .i32) (.arr 2 (.int .i32))) (.pair (.map (.int .i32) (.int .i32)) (.pair (.map (.arr 2 (.int .i32)) (.int .i32)) (.pair (.map (.int .i32) (.int .i64)) (.pair (.int .i64) .unit)))))))).1 ((t1).getD (Int.toNat t7) (Ty.dflt (.int .i32)))) 0) (decide ((Option.getD (mapGet (Ty.beq (.int .i32)) (Option.getD t0 (Ty.dflt (.pair (.map (.int .i32) (.int .i64)) (.pair (.map (.int .i32) (.arr 2 (.int .i32))) (.pair (.map (.int .i32) (.int .i32)) (.pair (.map (.arr 2 (.int .i32)) (.int .i32)) (.pair (.map (.int .i32) (.int .i64)) (.pair (.int .i64) .unit)))))))).1 ((t5).getD (Int.toNat (IntKind.wrap .i64 (((t5).length : Int) - 1))) (Ty.dflt (.int .i32)))) 0) ≥ (Option.getD (mapGet (Ty.beq (.int .i32)) (Option.getD t0 (Ty.dflt (.pair (.map (.int .i32) (.int .i64)) (.pair (.map (.int .i32) (.arr 2 (.int .i32))) (.pair (.map (.int .i32) (.int .i32)) (.pair (.map (.arr 2 (.int .i32)) (.int .i32)) (.pair (.map (.int .i32) (.int .i64)) (.pair (.int .i64) .unit)))))))).1 ((t1).getD (Int.toNat t7) (Ty.dflt (.int .i32)))) 0))))
      else
        F48j2 n rF48l0 t0 t1 t5 t6 t7 ((t1).getD (Int.toNat t7) (Ty.dflt (.int .i32))) (Option.getD (mapGet (Ty.beq (.int .i32)) (Option.getD t0 (Ty.dflt (.pair (.map (.int .i32) (.int .i64)) (.pair (.map (.int .i32) (.arr 2 (.int .i32))) (.pair (.map (.int .i32) (.int .i32)) (.pair (.map (.arr 2 (.int .i32)) (.int .i32)) (.pair (.map (.int .i32) (.int .i64)) (.pair (.int .i64) .unit)))))))).1 ((t1).getD (Int.toNat t7) (Ty.dflt (.int .i32)))) 0) false)
      else none)
      else none)
    else
      F48j1 n rF48l0 t0 t1 t5 t6 t7 ((t1).getD (Int.toNat t7) (Ty.dflt (.int .i32))) (Option.getD (mapGet (Ty.beq (.int .i32)) (Option.getD t0 (Ty.dflt (.pair (.map (.int .i32) (.int .i64)) (.pair (.map (.int .i32) (.arr 2 (.int .i32))) (.pair (.map (.int .i32) (.int .i32)) (.pair (.map (.arr 2 (.int .i32)) (.int .i32)) (.pair (.map (.int .i32) (.int .i64)) (.pair (.int .i64) .unit)))))))).1 ((t1).getD (Int.toNat t7) (Ty.dflt (.int .i32)))) 0))
    else none)
    else none)
  else
    some t5)
def F48l0 (n : Nat) : Nat → Option (List (Int × Int) × (List (Int × List Int) × (List (Int × Int) × (List (List Int × Int) × (List (Int × Int) × (Int × Unit)))))) → List Int → List Int → Int → Int → Option ((List Int))
  | 0, _, _, _, _, _ => none
  | m + 1, t0, t1, t5, t6, t7 => F48l0F n (F48l0 n m) t0 t1 t5 t6 t7

def F48 (n : Nat) (a0 : Option (List (Int × Int) × (List (Int × List Int) × (List (Int × Int) × (List (List Int × Int) × (List (Int × Int) × (Int × Unit))))))) (a1 : List Int) : Option ((List Int)) :=
  F48l0 n n a0 a1 ([] : List Int) (-1) 0

noncomputable def c48 : Code := Try.f48.body.getD .skip

noncomputable def G48 (n : Nat) : Ctx (Res [.slice (.int .i32)]) := ent 50 [.ref (.pair (.map (.int .i32) (.int .i64)) (.pair (.map (.int .i32) (.arr 2 (.int .i32))) (.pair (.map (.int .i32) (.int .i32)) (.pair (.map (.arr 2 (.int .i32)) (.int .i32)) (.pair (.map (.int .i32) (.int .i64)) (.pair (.int .i64) .unit)))))), .int .i32, .int .i32] [.int .i32, .bool] (fun x => F50 n x.1 x.2.1 x.2.2) (noFns)

theorem GO48 (n : Nat) : CtxOK Try.prog lay0 (G48 n) := ent_ok (T50 n) (fun _ _ h => h) (noFns_ok)

noncomputable def P48 (n : Nat) : Pl (Res [.slice (.int .i32)]) :=
  (.two .leaf (.two .leaf (.two .leaf (.two (.two .leaf (.one (.loop [.val (.tmp 0) (.ref (.pair (.map (.int .i32) (.int .i64)) (.pair (.map (.int .i32) (.arr 2 (.int .i32))) (.pair (.map (.int .i32) (.int .i32)) (.pair (.map (.arr 2 (.int .i32)) (.int .i32)) (.pair (.map (.int .i32) (.int .i64)) (.pair (.int .i64) .unit))))))), .val (.tmp 1) (.slice (.int .i32)), .vec (.tmp 5) 20000000 21 (.int .i32), .val (.tmp 6) (.int .i64), .val (.tmp 7) (.int .i64)] n (fun m x => F48l0 n m x.1 x.2.1 x.2.2.1 x.2.2.2.1 x.2.2.2.2.1) (fun r => let rF48l0 : Option (List (Int × Int) × (List (Int × List Int) × (List (Int × Int) × (List (List Int × Int) × (List (Int × Int) × (Int × Unit)))))) → List Int → List Int → Int → Int → Option ((List Int)) := (fun y0 y1 y2 y3 y4 => r (y0, y1, y2, y3, y4, ())); (.two .leaf (.two (.one (.two .leaf (.two .leaf (.join [.val (.tmp 0) (.ref (.pair (.map (.int .i32) (.int .i64)) (.pair (.map (.int .i32) (.arr 2 (.int .i32))) (.pair (.map (.int .i32) (.int .i32)) (.pair (.map (.arr 2 (.int .i32)) (.int .i32)) (.pair (.map (.int .i32) (.int .i64)) (.pair (.int .i64) .unit))))))), .val (.tmp 1) (.slice (.int .i32)), .vec (.tmp 5) 20000000 21 (.int .i32), .val (.tmp 6) (.int .i64), .val (.tmp 7) (.int .i64), .val (.tmp 8) (.int .i32), .val (.tmp 9) (.int .i64)] (fun x => F48j1 n rF48l0 x.1 x.2.1 x.2.2.1 x.2.2.2.1 x.2.2.2.2.1 x.2.2.2.2.2.1 x.2.2.2.2.2.2.1) (.two .leaf (.two (.two .leaf (.join [.val (.tmp 0) (.ref (.pair (.map (.int .i32) (.int .i64)) (.pair (.map (.int .i32) (.arr 2 (.int .i32))) (.pair (.map (.int .i32) (.int .i32)) (.pair (.map (.arr 2 (.int .i32)) (.int .i32)) (.pair (.map (.int .i32) (.int .i64)) (.pair (.int .i64) .unit))))))), .val (.tmp 1) (.slice (.int .i32)), .vec (.tmp 5) 20000000 21 (.int .i32), .val (.tmp 6) (.int .i64), .val (.tmp 7) (.int .i64), .val (.tmp 8) (.int .i32), .val (.tmp 9) (.int .i64), .val (.tmp 11) .bool] (fun x => F48j2 n rF48l0 x.1 x.2.1 x.2.2.1 x.2.2.2.1 x.2.2.2.2.1 x.2.2.2.2.2.1 x.2.2.2.2.2.2.1 x.2.2.2.2.2.2.2.1) .leaf (.two .leaf (.two .leaf (.two (.two .leaf (.two (.two .leaf (.one (.loop [.val (.tmp 0) (.ref (.pair (.map (.int .i32) (.int .i64)) (.pair (.map (.int .i32) (.arr 2 (.int .i32))) (.pair (.map (.int .i32) (.int .i32)) (.pair (.map (.arr 2 (.int .i32)) (.int .i32)) (.pair (.map (.int .i32) (.int .i64)) (.pair (.int .i64) .unit))))))), .val (.tmp 1) (.slice (.int .i32)), .vec (.tmp 5) 20000000 21 (.int .i32), .val (.tmp 6) (.int .i64), .val (.tmp 7) (.int .i64), .val (.tmp 14) (.int .i64)] n (fun m x => F48l3 n rF48l0 m x.1 x.2.1 x.2.2.1 x.2.2.2.1 x.2.2.2.2.1 x.2.2.2.2.2.1) (fun _ => .leaf)))) .leaf)) .leaf))))) .leaf)) .leaf)))) .leaf)))))) .leaf))))

theorem K48 (n : Nat) : PlOK (G48 n) noInl lay0 107 (P48 n) c48 (fnK lay0 [.tmp 4] [.val (.ref (.pair (.map (.int .i32) (.int .i64)) (.pair (.map (.int .i32) (.arr 2 (.int .i32))) (.pair (.map (.int .i32) (.int .i32)) (.pair (.map (.arr 2 (.int .i32)) (.int .i32)) (.pair (.map (.int .i32) (.int .i64)) (.pair (.int .i64) .unit))))))), .val (.slice (.int .i32))] [.val (.slice (.int .i32))] [.slice (.int .i32)]) :=
  ⟨trivial, ⟨trivial, ⟨trivial, ⟨⟨trivial, ⟨by kernel_rfl, fun x => by kernel_rfl, fun m => ⟨fun x => by kernel_rfl, ⟨trivial, ⟨⟨trivial, ⟨trivial, ⟨by kernel_rfl, fun x => by kernel_rfl, ⟨trivial, ⟨⟨trivial, ⟨by kernel_rfl, fun x => by kernel_rfl, trivial, ⟨trivial, ⟨trivial, ⟨⟨trivial, ⟨⟨trivial, ⟨by kernel_rfl, fun x => by kernel_rfl, fun m => ⟨fun x => by kernel_rfl, trivial⟩⟩⟩, trivial⟩⟩, trivial⟩⟩⟩⟩⟩, trivial⟩⟩, trivial⟩⟩⟩, trivial⟩⟩⟩⟩⟩, trivial⟩⟩⟩⟩

theorem E48 (n : Nat) (a0 : Option (List (Int × Int) × (List (Int × List Int) × (List (Int × Int) × (List (List Int × Int) × (List (Int × Int) × (Int × Unit))))))) (a1 : List Int) : F48 n a0 a1 = fnE [.val (.ref (.pair (.map (.int .i32) (.int .i64)) (.pair (.map (.int .i32) (.arr 2 (.int .i32))) (.pair (.map (.int .i32) (.int .i32)) (.pair (.map (.arr 2 (.int .i32)) (.int .i32)) (.pair (.map (.int .i32) (.int .i64)) (.pair (.int .i64) .unit))))))), .val (.slice (.int .i32))] (argDs [.ref (.pair (.map (.int .i32) (.int .i64)) (.pair (.map (.int .i32) (.arr 2 (.int .i32))) (.pair (.map (.int .i32) (.int .i32)) (.pair (.map (.arr 2 (.int .i32)) (.int .i32)) (.pair (.map (.int .i32) (.int .i64)) (.pair (.int .i64) .unit)))))), .slice (.int .i32)] (a0, a1)) (fun st => ev (G48 n) noInl lay0 107 c48 (P48 n) st (fnK lay0 [.tmp 4] [.val (.ref (.pair (.map (.int .i32) (.int .i64)) (.pair (.map (.int .i32) (.arr 2 (.int .i32))) (.pair (.map (.int .i32) (.int .i32)) (.pair (.map (.arr 2 (.int .i32)) (.int .i32)) (.pair (.map (.int .i32) (.int .i64)) (.pair (.int .i64) .unit))))))), .val (.slice (.int .i32))] [.val (.slice (.int .i32))] [.slice (.int .i32)])) := by kernel_rfl

theorem T48 (n : Nat) : Told Try.prog 48 [.ref (.pair (.map (.int .i32) (.int .i64)) (.pair (.map (.int .i32) (.arr 2 (.int .i32))) (.pair (.map (.int .i32) (.int .i32)) (.pair (.map (.arr 2 (.int .i32)) (.int .i32)) (.pair (.map (.int .i32) (.int .i64)) (.pair (.int .i64) .unit)))))), .slice (.int .i32)] [.slice (.int .i32)] (fun x => F48 n x.1 x.2) := by
  rintro ⟨a0, a1⟩ r h
  exact calls_plain (fn_sound lay0_ok mixed (rvs := [.tmp 4]) (by kernel_rfl : Try.prog.funcs[48]? = some Try.f48) (by kernel_rfl : Try.f48.body = some c48) (by kernel_rfl) (by kernel_rfl) (by kernel_rfl) (GO48 n) noInl_ok (K48 n) ((E48 n a0 a1).symm.trans h)) rfl rfl rfl rfl

/-! ### orthoepy/orthoepyref09.Form -/

def F44 (n : Nat) (a0 : Option (List (Int × Int) × (List (Int × List Int) × (List (Int × Int) × (List (List Int × Int) × (List (Int × Int) × (Int × Unit))))))) (a1 : List Int) : Option ((List Int)) :=
  (match F49 n a0 a1 with
  | some r1 =>
  (match F48 n a0 r1 with
  | some r2 =>
  some r2
  | none => none)
  | none => none)

noncomputable def c44 : Code := Try.f44.body.getD .skip

noncomputable def G44 (n : Nat) : Ctx (Res [.slice (.int .i32)]) := ent 48 [.ref (.pair (.map (.int .i32) (.int .i64)) (.pair (.map (.int .i32) (.arr 2 (.int .i32))) (.pair (.map (.int .i32) (.int .i32)) (.pair (.map (.arr 2 (.int .i32)) (.int .i32)) (.pair (.map (.int .i32) (.int .i64)) (.pair (.int .i64) .unit)))))), .slice (.int .i32)] [.slice (.int .i32)] (fun x => F48 n x.1 x.2) (ent 49 [.ref (.pair (.map (.int .i32) (.int .i64)) (.pair (.map (.int .i32) (.arr 2 (.int .i32))) (.pair (.map (.int .i32) (.int .i32)) (.pair (.map (.arr 2 (.int .i32)) (.int .i32)) (.pair (.map (.int .i32) (.int .i64)) (.pair (.int .i64) .unit)))))), .slice (.int .i32)] [.slice (.int .i32)] (fun x => F49 n x.1 x.2) (noFns))

theorem GO44 (n : Nat) : CtxOK Try.prog lay0 (G44 n) := ent_ok (T48 n) (fun _ _ h => h) (ent_ok (T49 n) (fun _ _ h => h) (noFns_ok))

noncomputable def P44 (n : Nat) : Pl (Res [.slice (.int .i32)]) :=
  .leaf

theorem K44 (n : Nat) : PlOK (G44 n) noInl lay0 10 (P44 n) c44 (fnK lay0 [.tmp 4] [.val (.ref (.pair (.map (.int .i32) (.int .i64)) (.pair (.map (.int .i32) (.arr 2 (.int .i32))) (.pair (.map (.int .i32) (.int .i32)) (.pair (.map (.arr 2 (.int .i32)) (.int .i32)) (.pair (.map (.int .i32) (.int .i64)) (.pair (.int .i64) .unit))))))), .val (.slice (.int .i32))] [.val (.slice (.int .i32))] [.slice (.int .i32)]) :=
  trivial

theorem E44 (n : Nat) (a0 : Option (List (Int × Int) × (List (Int × List Int) × (List (Int × Int) × (List (List Int × Int) × (List (Int × Int) × (Int × Unit))))))) (a1 : List Int) : F44 n a0 a1 = fnE [.val (.ref (.pair (.map (.int .i32) (.int .i64)) (.pair (.map (.int .i32) (.arr 2 (.int .i32))) (.pair (.map (.int .i32) (.int .i32)) (.pair (.map (.arr 2 (.int .i32)) (.int .i32)) (.pair (.map (.int .i32) (.int .i64)) (.pair (.int .i64) .unit))))))), .val (.slice (.int .i32))] (argDs [.ref (.pair (.map (.int .i32) (.int .i64)) (.pair (.map (.int .i32) (.arr 2 (.int .i32))) (.pair (.map (.int .i32) (.int .i32)) (.pair (.map (.arr 2 (.int .i32)) (.int .i32)) (.pair (.map (.int .i32) (.int .i64)) (.pair (.int .i64) .unit)))))), .slice (.int .i32)] (a0, a1)) (fun st => ev (G44 n) noInl lay0 10 c44 (P44 n) st (fnK lay0 [.tmp 4] [.val (.ref (.pair (.map (.int .i32) (.int .i64)) (.pair (.map (.int .i32) (.arr 2 (.int .i32))) (.pair (.map (.int .i32) (.int .i32)) (.pair (.map (.arr 2 (.int .i32)) (.int .i32)) (.pair (.map (.int .i32) (.int .i64)) (.pair (.int .i64) .unit))))))), .val (.slice (.int .i32))] [.val (.slice (.int .i32))] [.slice (.int .i32)])) := by kernel_rfl

theorem T44 (n : Nat) : Told Try.prog 44 [.ref (.pair (.map (.int .i32) (.int .i64)) (.pair (.map (.int .i32) (.arr 2 (.int .i32))) (.pair (.map (.int .i32) (.int .i32)) (.pair (.map (.arr 2 (.int .i32)) (.int .i32)) (.pair (.map (.int .i32) (.int .i64)) (.pair (.int .i64) .unit)))))), .slice (.int .i32)] [.slice (.int .i32)] (fun x => F44 n x.1 x.2) := by
  rintro ⟨a0, a1⟩ r h
  exact calls_plain (fn_sound lay0_ok mixed (rvs := [.tmp 4]) (by kernel_rfl : Try.prog.funcs[44]? = some Try.f44) (by kernel_rfl : Try.f44.body = some c44) (by kernel_rfl) (by kernel_rfl) (by kernel_rfl) (GO44 n) noInl_ok (K44 n) ((E44 n a0 a1).symm.trans h)) rfl rfl rfl rfl

/-! ### orthoepy/orthoepyref01.Is -/

def F38 (n : Nat) (a0 : Int) : Option (Bool) :=
  (bif (decide (a0 ≥ 0)) then
    (bif (decide (a0 < 55296)) then
      some true
    else
      (bif (decide (a0 > 57343)) then
        some (decide (a0 ≤ 1114111))
      else
        some false))
  else
    (bif (decide (a0 > 57343)) then
      some (decide (a0 ≤ 1114111))
    else
      some false))

noncomputable def c38 : Code := Try.f38.body.getD .skip

noncomputable def G38 (n : Nat) : Ctx (Res [.bool]) := noFns

theorem GO38 (n : Nat) : CtxOK Try.prog lay0 (G38 n) := noFns_ok

noncomputable def P38 (n : Nat) : Pl (Res [.bool]) :=
  .leaf

theorem K38 (n : Nat) : PlOK (G38 n) noInl lay0 17 (P38 n) c38 (fnK lay0 [.tmp 2] [.val (.int .i32)] [.val .bool] [.bool]) :=
  trivial

theorem E38 (n : Nat) (a0 : Int) : F38 n a0 = fnE [.val (.int .i32)] (argDs [.int .i32] (a0)) (fun st => ev (G38 n) noInl lay0 17 c38 (P38 n) st (fnK lay0 [.tmp 2] [.val (.int .i32)] [.val .bool] [.bool])) := by kernel_rfl

theorem T38 (n : Nat) : Told Try.prog 38 [.int .i32] [.bool] (fun x => F38 n x) := by
  rintro a0 r h
  exact calls_plain (fn_sound lay0_ok mixed (rvs := [.tmp 2]) (by kernel_rfl : Try.prog.funcs[38]? = some Try.f38) (by kernel_rfl : Try.f38.body = some c38) (by kernel_rfl) (by kernel_rfl) (by kernel_rfl) (GO38 n) noInl_ok (K38 n) ((E38 n a0).symm.trans h)) rfl rfl rfl rfl

/-! ### orthoepy/orthoepyref02.long -/

def F45 (n : Nat) (a0 : Int) : Option (Int) :=
  (bif (decide (a0 < 128)) then
    some 1
  else
    (bif (decide (a0 ≥ 194)) then
      (bif (decide (a0 ≤ 223)) then
        some 2
      else
        (bif (decide (a0 ≥ 224)) then
          (bif (decide (a0 ≤ 239)) then
            some 3
          else
            (bif (decide (a0 ≥ 240)) then
              (bif (decide (a0 ≤ 244)) then
                some 4
              else
                some 0)
            else
              some 0))
        else
          (bif (decide (a0 ≥ 240)) then
            (bif (decide (a0 ≤ 244)) then
              some 4
            else
              some 0)
          else
            some 0)))
    else
      (bif (decide (a0 ≥ 224)) then
        (bif (decide (a0 ≤ 239)) then
          some 3
        else
          (bif (decide (a0 ≥ 240)) then
            (bif (decide (a0 ≤ 244)) then
              some 4
            else
              some 0)
          else
            some 0))
      else
        (bif (decide (a0 ≥ 240)) then
          (bif (decide (a0 ≤ 244)) then
            some 4
          else
            some 0)
        else
          some 0))))

noncomputable def c45 : Code := Try.f45.body.getD .skip

noncomputable def G45 (n : Nat) : Ctx (Res [.int .i64]) := noFns

theorem GO45 (n : Nat) : CtxOK Try.prog lay0 (G45 n) := noFns_ok

noncomputable def P45 (n : Nat) : Pl (Res [.int .i64]) :=
  .leaf

theorem K45 (n : Nat) : PlOK (G45 n) noInl lay0 27 (P45 n) c45 (fnK lay0 [.tmp 2] [.val (.int .u8)] [.val (.int .i64)] [.int .i64]) :=
  trivial

theorem E45 (n : Nat) (a0 : Int) : F45 n a0 = fnE [.val (.int .u8)] (argDs [.int .u8] (a0)) (fun st => ev (G45 n) noInl lay0 27 c45 (P45 n) st (fnK lay0 [.tmp 2] [.val (.int .u8)] [.val (.int .i64)] [.int .i64])) := by kernel_rfl

theorem T45 (n : Nat) : Told Try.prog 45 [.int .u8] [.int .i64] (fun x => F45 n x) := by
  rintro a0 r h
  exact calls_plain (fn_sound lay0_ok mixed (rvs := [.tmp 2]) (by kernel_rfl : Try.prog.funcs[45]? = some Try.f45) (by kernel_rfl : Try.f45.body = some c45) (by kernel_rfl) (by kernel_rfl) (by kernel_rfl) (GO45 n) noInl_ok (K45 n) ((E45 n a0).symm.trans h)) rfl rfl rfl rfl

/-! ### orthoepy/orthoepyref02.second -/

def F46 (n : Nat) (a0 : Int) (a1 : Int) : Option (Bool) :=
  (bif (a0 == 224) then
    (bif (decide (a1 ≥ 160)) then
      some (decide (a1 ≤ 191))
    else
      some false)
  else
    (bif (a0 == 237) then
      (bif (decide (a1 ≥ 128)) then
        some (decide (a1 ≤ 159))
      else
        some false)
    else
      (bif (a0 == 240) then
        (bif (decide (a1 ≥ 144)) then
          some (decide (a1 ≤ 191))
        else
          some false)
      else
        (bif (a0 == 244) then
          (bif (decide (a1 ≥ 128)) then
            some (decide (a1 ≤ 143))
          else
            some false)
        else
          (bif (decide (a1 ≥ 128)) then
            some (decide (a1 ≤ 191))
          else
            some false)))))

noncomputable def c46 : Code := Try.f46.body.getD .skip

noncomputable def G46 (n : Nat) : Ctx (Res [.bool]) := noFns

theorem GO46 (n : Nat) : CtxOK Try.prog lay0 (G46 n) := noFns_ok

noncomputable def P46 (n : Nat) : Pl (Res [.bool]) :=
  .leaf

theorem K46 (n : Nat) : PlOK (G46 n) noInl lay0 44 (P46 n) c46 (fnK lay0 [.tmp 4] [.val (.int .u8), .val (.int .u8)] [.val .bool] [.bool]) :=
  trivial

theorem E46 (n : Nat) (a0 : Int) (a1 : Int) : F46 n a0 a1 = fnE [.val (.int .u8), .val (.int .u8)] (argDs [.int .u8, .int .u8] (a0, a1)) (fun st => ev (G46 n) noInl lay0 44 c46 (P46 n) st (fnK lay0 [.tmp 4] [.val (.int .u8), .val (.int .u8)] [.val .bool] [.bool])) := by kernel_rfl

theorem T46 (n : Nat) : Told Try.prog 46 [.int .u8, .int .u8] [.bool] (fun x => F46 n x.1 x.2) := by
  rintro ⟨a0, a1⟩ r h
  exact calls_plain (fn_sound lay0_ok mixed (rvs := [.tmp 4]) (by kernel_rfl : Try.prog.funcs[46]? = some Try.f46) (by kernel_rfl : Try.f46.body = some c46) (by kernel_rfl) (by kernel_rfl) (by kernel_rfl) (GO46 n) noInl_ok (K46 n) ((E46 n a0 a1).symm.trans h)) rfl rfl rfl rfl

/-! ### orthoepy/orthoepyref02.How -/

def F41l0F (n : Nat) (rF41l0 : List Int → Int → Int → Option (Int)) (t0 : List Int) (t3 : Int) (t4 : Int) : Option (Int) :=
  (bif (decide (t4 < ((t0).length : Int))) then
    (bif (t4 == 1) then
      (bif inB 0 (t0).length then
      (bif inB 1 (t0).length then
      (match F46 n ((t0).getD (Int.toNat 0) (Ty.dflt (.int .u8))) ((t0).getD (Int.toNat 1) (Ty.dflt (.int .u8))) with
      | some r2 =>
      (bif (!r2) then
        some 0
      else
        (bif inB t4 (t0).length then
        (bif (decide (((t0).getD (Int.toNat t4) (Ty.dflt (.int .u8))) < 128)) then
          some 0
        else
          (bif inB t4 (t0).length then
          (bif (decide (((t0).getD (Int.toNat t4) (Ty.dflt (.int .u8))) > 191)) then
            some 0
          else
            rF41l0 t0 t3 (IntKind.wrap .i64 (t4 + 1)))
          else none))
        else none))
      | none => none)
      else none)
      else none)
    else
      (bif inB t4 (t0).length then
      (bif (decide (((t0).getD (Int.toNat t4) (Ty.dflt (.int .u8))) < 128)) then
        some 0
      else
        (bif inB t4 (t0).length then
        (bif (decide (((t0).getD (Int.toNat t4) (Ty.dflt (.int .u8))) > 191)) then
          some 0
        else
          rF41l0 t0 t3 (IntKind.wrap .i64 (t4 + 1)))
        else none))
      else none))
  else
    (bif (t3 == ((t0).length : Int)) then
      some 2
    else
      some 1))
def F41l0 (n : Nat) : Nat → List Int → Int → Int → Option (Int)
  | 0, _, _, _ => none
  | m + 1, t0, t3, t4 => F41l0F n (F41l0 n m) t0 t3 t4

def F41 (n : Nat) (a0 : List Int) : Option (Int) :=
  (bif (((a0).length : Int) == 0) then
    some 0
  else
    (bif (decide (((a0).length : Int) > 4)) then
      some 0
    else
      (bif inB 0 (a0).length then
      (match F45 n ((a0).getD (Int.toNat 0) (Ty.dflt (.int .u8))) with
      | some r1 =>
      (bif (decide (r1 < ((a0).length : Int))) then
        some 0
      else
        F41l0 n n a0 r1 1)
      | none => none)
      else none)))

noncomputable def c41 : Code := Try.f41.body.getD .skip

noncomputable def G41 (n : Nat) : Ctx (Res [.int .i64]) := ent 45 [.int .u8] [.int .i64] (fun x => F45 n x) (ent 46 [.int .u8, .int .u8] [.bool] (fun x => F46 n x.1 x.2) (noFns))

theorem GO41 (n : Nat) : CtxOK Try.prog lay0 (G41 n) := ent_ok (T45 n) (fun _ _ h => h) (ent_ok (T46 n) (fun _ _ h => h) (noFns_ok))

noncomputable def P41 (n : Nat) : Pl (Res [.int .i64]) :=
  (.two .leaf (.two .leaf (.two .leaf (.two .leaf (.two (.two .leaf (.one (.loop [.val (.tmp 0) (.slice (.int .u8)), .val (.tmp 3) (.int .i64), .val (.tmp 4) (.int .i64)] n (fun m x => F41l0 n m x.1 x.2.1 x.2.2.1) (fun _ => .leaf)))) .leaf)))))

theorem K41 (n : Nat) : PlOK (G41 n) noInl lay0 57 (P41 n) c41 (fnK lay0 [.tmp 2] [.val (.slice (.int .u8))] [.val (.int .i64)] [.int .i64]) :=
  ⟨trivial, ⟨trivial, ⟨trivial, ⟨trivial, ⟨⟨trivial, ⟨by kernel_rfl, fun x => by kernel_rfl, fun m => ⟨fun x => by kernel_rfl, trivial⟩⟩⟩, trivial⟩⟩⟩⟩⟩

theorem E41 (n : Nat) (a0 : List Int) : F41 n a0 = fnE [.val (.slice (.int .u8))] (argDs [.slice (.int .u8)] (a0)) (fun st => ev (G41 n) noInl lay0 57 c41 (P41 n) st (fnK lay0 [.tmp 2] [.val (.slice (.int .u8))] [.val (.int .i64)] [.int .i64])) := by kernel_rfl

theorem T41 (n : Nat) : Told Try.prog 41 [.slice (.int .u8)] [.int .i64] (fun x => F41 n x) := by
  rintro a0 r h
  exact calls_plain (fn_sound lay0_ok mixed (rvs := [.tmp 2]) (by kernel_rfl : Try.prog.funcs[41]? = some Try.f41) (by kernel_rfl : Try.f41.body = some c41) (by kernel_rfl) (by kernel_rfl) (by kernel_rfl) (GO41 n) noInl_ok (K41 n) ((E41 n a0).symm.trans h)) rfl rfl rfl rfl

/-! ### orthoepy/orthoepyref02.of -/

def F42l1F (n : Nat) (rF42l1 : List Int → Int → Int → Option (Int)) (t0 : List Int) (t3 : Int) (t4 : Int) : Option (Int) :=
  (bif (decide (t4 < ((t0).length : Int))) then
    (bif inB t4 (t0).length then
    rF42l1 t0 (IntKind.wrap .i32 ((IntKind.wrap .i32 ((IntKind.wrap .i32 (t3 * 64)) + (IntKind.wrap .i32 (((t0).getD (Int.toNat t4) (Ty.dflt (.int .u8))))))) - 128)) (IntKind.wrap .i64 (t4 + 1))
    else none)
  else
    some t3)
def F42l1 (n : Nat) : Nat → List Int → Int → Int → Option (Int)
  | 0, _, _, _ => none
  | m + 1, t0, t3, t4 => F42l1F n (F42l1 n m) t0 t3 t4

def F42j0 (n : Nat) (t0 : List Int) (t3 : Int) : Option (Int) :=
  F42l1 n n t0 t3 1

def F42 (n : Nat) (a0 : List Int) : Option (Int) :=
  (bif inB 0 (a0).length then
  (bif (((a0).length : Int) == 2) then
    F42j0 n a0 (IntKind.wrap .i32 ((IntKind.wrap .i32 (((a0).getD (Int.toNat 0) (Ty.dflt (.int .u8))))) - 192))
  else
    (bif (((a0).length : Int) == 3) then
      F42j0 n a0 (IntKind.wrap .i32 ((IntKind.wrap .i32 (((a0).getD (Int.toNat 0) (Ty.dflt (.int .u8))))) - 224))
    else
      (bif (((a0).length : Int) == 4) then
        F42j0 n a0 (IntKind.wrap .i32 ((IntKind.wrap .i32 (((a0).getD (Int.toNat 0) (Ty.dflt (.int .u8))))) - 240))
      else
        F42j0 n a0 (IntKind.wrap .i32 (((a0).getD (Int.toNat 0) (Ty.dflt (.int .u8))))))))
  else none)

noncomputable def c42 : Code := Try.f42.body.getD .skip

noncomputable def G42 (n : Nat) : Ctx (Res [.int .i32]) := noFns

theorem GO42 (n : Nat) : CtxOK Try.prog lay0 (G42 n) := noFns_ok

noncomputable def P42 (n : Nat) : Pl (Res [.int .i32]) :=
  (.two .leaf (.two .leaf (.join [.val (.tmp 0) (.slice (.int .u8)), .val (.tmp 3) (.int .i32)] (fun x => F42j0 n x.1 x.2.1) .leaf (.two (.two .leaf (.one (.loop [.val (.tmp 0) (.slice (.int .u8)), .val (.tmp 3) (.int .i32), .val (.tmp 4) (.int .i64)] n (fun m x => F42l1 n m x.1 x.2.1 x.2.2.1) (fun _ => .leaf)))) .leaf))))

theorem K42 (n : Nat) : PlOK (G42 n) noInl lay0 39 (P42 n) c42 (fnK lay0 [.tmp 2] [.val (.slice (.int .u8))] [.val (.int .i32)] [.int .i32]) :=
  ⟨trivial, ⟨trivial, ⟨by kernel_rfl, fun x => by kernel_rfl, trivial, ⟨⟨trivial, ⟨by kernel_rfl, fun x => by kernel_rfl, fun m => ⟨fun x => by kernel_rfl, trivial⟩⟩⟩, trivial⟩⟩⟩⟩

theorem E42 (n : Nat) (a0 : List Int) : F42 n a0 = fnE [.val (.slice (.int .u8))] (argDs [.slice (.int .u8)] (a0)) (fun st => ev (G42 n) noInl lay0 39 c42 (P42 n) st (fnK lay0 [.tmp 2] [.val (.slice (.int .u8))] [.val (.int .i32)] [.int .i32])) := by kernel_rfl

theorem T42 (n : Nat) : Told Try.prog 42 [.slice (.int .u8)] [.int .i32] (fun x => F42 n x) := by
  rintro a0 r h
  exact calls_plain (fn_sound lay0_ok mixed (rvs := [.tmp 2]) (by kernel_rfl : Try.prog.funcs[42]? = some Try.f42) (by kernel_rfl : Try.f42.body = some c42) (by kernel_rfl) (by kernel_rfl) (by kernel_rfl) (GO42 n) noInl_ok (K42 n) ((E42 n a0).symm.trans h)) rfl rfl rfl rfl

/-! ### orthoepy/orthoepyref02.First -/

def F37j0 (n : Nat) (t0 : List Int) (t5 : Int) : Option (Int × Int × Bool) :=
  (bif (decide (t5 < ((t0).length : Int))) then
    (bif (cutB 0 (IntKind.wrap .i64 (t5 + 1)) (t0).length && true) then
    (match F41 n (((t0).drop (Int.toNat 0)).take (Int.toNat (IntKind.wrap .i64 (t5 + 1)) - Int.toNat 0)) with
    | some r2 =>
    (bif (r2 == 2) then
      (bif (cutB 0 (IntKind.wrap .i64 (t5 + 1)) (t0).length && true) then
      (match F42 n (((t0).drop (Int.toNat 0)).take (Int.toNat (IntKind.wrap .i64 (t5 + 1)) - Int.toNat 0)) with
      | some r3 =>
      some (r3, (IntKind.wrap .i64 (t5 + 1)), true)
      | none => none)
      else none)
    else
      some (0, t5, false))
    | none => none)
    else none)
  else
    some (0, t5, false))

def F37l1F (n : Nat) (rF37l1 : List Int → Int → Option (Int × Int × Bool)) (t0 : List Int) (t5 : Int) : Option (Int × Int × Bool) :=
  (bif (decide (t5 < ((t0).length : Int))) then
    (bif (cutB 0 (IntKind.wrap .i64 (t5 + 1)) (t0).length && true) then
    (match F41 n (((t0).drop (Int.toNat 0)).take (Int.toNat (IntKind.wrap .i64 (t5 + 1)) - Int.toNat 0)) with
    | some r1 =>
    (bif (r1 == 1) then
      rF37l1 t0 (IntKind.wrap .i64 (t5 + 1))
    else
      F37j0 n t0 t5)
    | none => none)
    else none)
  else
    F37j0 n t0 t5)
def F37l1 (n : Nat) : Nat → List Int → Int → Option (Int × Int × Bool)
  | 0, _, _ => none
  | m + 1, t0, t5 => F37l1F n (F37l1 n m) t0 t5

def F37 (n : Nat) (a0 : List Int) : Option (Int × Int × Bool) :=
  F37l1 n n a0 0

noncomputable def c37 : Code := Try.f37.body.getD .skip

noncomputable def G37 (n : Nat) : Ctx (Res [.int .i32, .int .i64, .bool]) := ent 41 [.slice (.int .u8)] [.int .i64] (fun x => F41 n x) (ent 42 [.slice (.int .u8)] [.int .i32] (fun x => F42 n x) (noFns))

theorem GO37 (n : Nat) : CtxOK Try.prog lay0 (G37 n) := ent_ok (T41 n) (fun _ _ h => h) (ent_ok (T42 n) (fun _ _ h => h) (noFns_ok))

noncomputable def P37 (n : Nat) : Pl (Res [.int .i32, .int .i64, .bool]) :=
  (.two .leaf (.two .leaf (.join [.val (.tmp 0) (.slice (.int .u8)), .val (.tmp 5) (.int .i64)] (fun x => F37j0 n x.1 x.2.1) (.one (.loop [.val (.tmp 0) (.slice (.int .u8)), .val (.tmp 5) (.int .i64)] n (fun m x => F37l1 n m x.1 x.2.1) (fun _ => .leaf))) .leaf)))

theorem K37 (n : Nat) : PlOK (G37 n) noInl lay0 40 (P37 n) c37 (fnK lay0 [.tmp 2, .tmp 3, .tmp 4] [.val (.slice (.int .u8))] [.val (.int .i32), .val (.int .i64), .val .bool] [.int .i32, .int .i64, .bool]) :=
  ⟨trivial, ⟨trivial, ⟨by kernel_rfl, fun x => by kernel_rfl, ⟨by kernel_rfl, fun x => by kernel_rfl, fun m => ⟨fun x => by kernel_rfl, trivial⟩⟩, trivial⟩⟩⟩

theorem E37 (n : Nat) (a0 : List Int) : F37 n a0 = fnE [.val (.slice (.int .u8))] (argDs [.slice (.int .u8)] (a0)) (fun st => ev (G37 n) noInl lay0 40 c37 (P37 n) st (fnK lay0 [.tmp 2, .tmp 3, .tmp 4] [.val (.slice (.int .u8))] [.val (.int .i32), .val (.int .i64), .val .bool] [.int .i32, .int .i64, .bool])) := by kernel_rfl

theorem T37 (n : Nat) : Told Try.prog 37 [.slice (.int .u8)] [.int .i32, .int .i64, .bool] (fun x => F37 n x) := by
  rintro a0 r h
  exact calls_plain (fn_sound lay0_ok mixed (rvs := [.tmp 2, .tmp 3, .tmp 4]) (by kernel_rfl : Try.prog.funcs[37]? = some Try.f37) (by kernel_rfl : Try.f37.body = some c37) (by kernel_rfl) (by kernel_rfl) (by kernel_rfl) (GO37 n) noInl_ok (K37 n) ((E37 n a0).symm.trans h)) rfl rfl rfl rfl

/-! ### orthoepy/orthoepyref02.All -/

def F34l0F (n : Nat) (rF34l0 : List Int → List Int → Int → Option ((List Int) × Int × Bool)) (t0 : List Int) (t5 : List Int) (t6 : Int) : Option ((List Int) × Int × Bool) :=
  (bif (decide (t6 < ((t0).length : Int))) then
    (bif (cutB t6 ((t0).length : Int) (t0).length && true) then
    (match F37 n (((t0).drop (Int.toNat t6)).take (Int.toNat ((t0).length : Int) - Int.toNat t6)) with
    | some r1 =>
    (bif (!r1.2.2) then
      some (([] : List Int), (IntKind.wrap .i64 (t6 + r1.2.1)), false)
    else
      (bif (decide (((t5).length + (([r1.1] : List Int)).length) * 4 ≤ maxRoom) && decide ((t5).length + (([r1.1] : List Int)).length ≤ maxRoom)) then
      rF34l0 t0 (t5 ++ ([r1.1] : List Int)) (IntKind.wrap .i64 (t6 + r1.2.1))
      else none))
    | none => none)
    else none)
  else
    some (t5, t6, true))
def F34l0 (n : Nat) : Nat → List Int → List Int → Int → Option ((List Int) × Int × Bool)
  | 0, _, _, _ => none
  | m + 1, t0, t5, t6 => F34l0F n (F34l0 n m) t0 t5 t6

def F34 (n : Nat) (a0 : List Int) : Option ((List Int) × Int × Bool) :=
  F34l0 n n a0 ([] : List Int) 0

noncomputable def c34 : Code := Try.f34.body.getD .skip

noncomputable def G34 (n : Nat) : Ctx (Res [.slice (.int .i32), .int .i64, .bool]) := ent 37 [.slice (.int .u8)] [.int .i32, .int .i64, .bool] (fun x => F37 n x) (noFns)

theorem GO34 (n : Nat) : CtxOK Try.prog lay0 (G34 n) := ent_ok (T37 n) (fun _ _ h => h) (noFns_ok)

noncomputable def P34 (n : Nat) : Pl (Res [.slice (.int .i32), .int .i64, .bool]) :=
  (.two .leaf (.two .leaf (.two .leaf (.two (.one (.loop [.val (.tmp 0) (.slice (.int .u8)), .vec (.tmp 5) 20000000 21 (.int .i32), .val (.tmp 6) (.int .i64)] n (fun m x => F34l0 n m x.1 x.2.1 x.2.2.1) (fun _ => .leaf))) .leaf))))

theorem K34 (n : Nat) : PlOK (G34 n) noInl lay0 36 (P34 n) c34 (fnK lay0 [.tmp 2, .tmp 3, .tmp 4] [.val (.slice (.int .u8))] [.val (.slice (.int .i32)), .val (.int .i64), .val .bool] [.slice (.int .i32), .int .i64, .bool]) :=
  ⟨trivial, ⟨trivial, ⟨trivial, ⟨⟨by kernel_rfl, fun x => by kernel_rfl, fun m => ⟨fun x => by kernel_rfl, trivial⟩⟩, trivial⟩⟩⟩⟩

theorem E34 (n : Nat) (a0 : List Int) : F34 n a0 = fnE [.val (.slice (.int .u8))] (argDs [.slice (.int .u8)] (a0)) (fun st => ev (G34 n) noInl lay0 36 c34 (P34 n) st (fnK lay0 [.tmp 2, .tmp 3, .tmp 4] [.val (.slice (.int .u8))] [.val (.slice (.int .i32)), .val (.int .i64), .val .bool] [.slice (.int .i32), .int .i64, .bool])) := by kernel_rfl

theorem T34 (n : Nat) : Told Try.prog 34 [.slice (.int .u8)] [.slice (.int .i32), .int .i64, .bool] (fun x => F34 n x) := by
  rintro a0 r h
  exact calls_plain (fn_sound lay0_ok mixed (rvs := [.tmp 2, .tmp 3, .tmp 4]) (by kernel_rfl : Try.prog.funcs[34]? = some Try.f34) (by kernel_rfl : Try.f34.body = some c34) (by kernel_rfl) (by kernel_rfl) (by kernel_rfl) (GO34 n) noInl_ok (K34 n) ((E34 n a0).symm.trans h)) rfl rfl rfl rfl

/-! ### orthoepy/orthoepyref02.Bytes -/

def F47 (n : Nat) (a0 : Int) : Option ((List Int)) :=
  (match F38 n a0 with
  | some r1 =>
  (bif (!r1) then
    some ([] : List Int)
  else
    (bif (decide (a0 < 128)) then
      some ([(IntKind.wrap .u8 (a0))] : List Int)
    else
      (bif (decide (a0 < 2048)) then
        (bif (!(64 == 0)) then
        (bif (!(64 == 0)) then
        some ([(IntKind.wrap .u8 ((IntKind.wrap .i32 (192 + (IntKind.wrap .i32 (Int.tdiv a0 64)))))), (IntKind.wrap .u8 ((IntKind.wrap .i32 (128 + (Int.tmod a0 64)))))] : List Int)
        else none)
        else none)
      else
        (bif (decide (a0 < 65536)) then
          (bif (!(4096 == 0)) then
          (bif (!(64 == 0)) then
          (bif (!(64 == 0)) then
          (bif (!(64 == 0)) then
          some ([(IntKind.wrap .u8 ((IntKind.wrap .i32 (224 + (IntKind.wrap .i32 (Int.tdiv a0 4096)))))), (IntKind.wrap .u8 ((IntKind.wrap .i32 (128 + (Int.tmod (IntKind.wrap .i32 (Int.tdiv a0 64)) 64))))), (IntKind.wrap .u8 ((IntKind.wrap .i32 (128 + (Int.tmod a0 64)))))] : List Int)
          else none)
          else none)
          else none)
          else none)
        else
          (bif (!(262144 == 0)) then
          (bif (!(4096 == 0)) then
          (bif (!(64 == 0)) then
          (bif (!(64 == 0)) then
          (bif (!(64 == 0)) then
          (bif (!(64 == 0)) then
          some ([(IntKind.wrap .u8 ((IntKind.wrap .i32 (240 + (IntKind.wrap .i32 (Int.tdiv a0 262144)))))), (IntKind.wrap .u8 ((IntKind.wrap .i32 (128 + (Int.tmod (IntKind.wrap .i32 (Int.tdiv a0 4096)) 64))))), (IntKind.wrap .u8 ((IntKind.wrap .i32 (128 + (Int.tmod (IntKind.wrap .i32 (Int.tdiv a0 64)) 64))))), (IntKind.wrap .u8 ((IntKind.wrap .i32 (128 + (Int.tmod a0 64)))))] : List Int)
          else none)
          else none)
          else none)
          else none)
          else none)
          else none)))))
  | none => none)

noncomputable def c47 : Code := Try.f47.body.getD .skip

noncomputable def G47 (n : Nat) : Ctx (Res [.slice (.int .u8)]) := ent 38 [.int .i32] [.bool] (fun x => F38 n x) (noFns)

theorem GO47 (n : Nat) : CtxOK Try.prog lay0 (G47 n) := ent_ok (T38 n) (fun _ _ h => h) (noFns_ok)

noncomputable def P47 (n : Nat) : Pl (Res [.slice (.int .u8)]) :=
  .leaf

theorem K47 (n : Nat) : PlOK (G47 n) noInl lay0 61 (P47 n) c47 (fnK lay0 [.tmp 2] [.val (.int .i32)] [.vec 5 (.int .u8)] [.slice (.int .u8)]) :=
  trivial

theorem E47 (n : Nat) (a0 : Int) : F47 n a0 = fnE [.val (.int .i32)] (argDs [.int .i32] (a0)) (fun st => ev (G47 n) noInl lay0 61 c47 (P47 n) st (fnK lay0 [.tmp 2] [.val (.int .i32)] [.vec 5 (.int .u8)] [.slice (.int .u8)])) := by kernel_rfl

theorem T47 (n : Nat) : ToldIo Try.prog 47 [.val (.int .i32)] [.vec 5 (.int .u8)] [.int .i32] [.slice (.int .u8)] (fun x => F47 n x) := by
  rintro a0 r h
  exact fn_sound lay0_ok mixed (rvs := [.tmp 2]) (by kernel_rfl : Try.prog.funcs[47]? = some Try.f47) (by kernel_rfl : Try.f47.body = some c47) (by kernel_rfl) (by kernel_rfl) (by kernel_rfl) (GO47 n) noInl_ok (K47 n) ((E47 n a0).symm.trans h)

/-! ### orthoepy/orthoepyref02.Text -/

def F43l0F (n : Nat) (rF43l0 : List Int → List Int → Int → Option ((List Int))) (t0 : List Int) (t3 : List Int) (t4 : Int) : Option ((List Int)) :=
  (bif (decide (t4 < ((t0).length : Int))) then
    (bif inB t4 (t0).length then
    (match F47 n ((t0).getD (Int.toNat t4) (Ty.dflt (.int .i32))) with
    | some r1 =>
    (bif (decide (((t3).length + (r1).length) * 1 ≤ maxRoom) && decide ((t3).length + (r1).length ≤ maxRoom)) then
    rF43l0 t0 (t3 ++ r1) (IntKind.wrap .i64 (t4 + 1))
    else none)
    | none => none)
    else none)
  else
    some t3)
def F43l0 (n : Nat) : Nat → List Int → List Int → Int → Option ((List Int))
  | 0, _, _, _ => none
  | m + 1, t0, t3, t4 => F43l0F n (F43l0 n m) t0 t3 t4

def F43 (n : Nat) (a0 : List Int) : Option ((List Int)) :=
  F43l0 n n a0 ([] : List Int) 0

noncomputable def lay43 : Lay := layOf layL [(47, .io [.val (.int .i32)] [.vec 5 (.int .u8)])]
theorem lay43_ok : LayOK Try.prog lay43 := layOf_ok layAll (by
  intro p hp
  simp only [List.mem_cons, List.not_mem_nil, or_false] at hp
  rcases hp with rfl
  · exact trivial) layEq layKeys

noncomputable def c43 : Code := Try.f43.body.getD .skip

noncomputable def G43 (n : Nat) : Ctx (Res [.slice (.int .u8)]) := entIo 47 [.int .i32] [.slice (.int .u8)] (fun x => F47 n x) (noFns)

theorem GO43 (n : Nat) : CtxOK Try.prog lay43 (G43 n) := ent_okIo (ps := [.val (.int .i32)]) (rss := [.vec 5 (.int .u8)]) (T47 n) (fun _ _ h => h) (noFns_ok)

noncomputable def P43 (n : Nat) : Pl (Res [.slice (.int .u8)]) :=
  (.two .leaf (.two .leaf (.two (.two .leaf (.one (.loop [.val (.tmp 0) (.slice (.int .i32)), .vec (.tmp 3) 20000000 5 (.int .u8), .val (.tmp 4) (.int .i64)] n (fun m x => F43l0 n m x.1 x.2.1 x.2.2.1) (fun _ => .leaf)))) .leaf)))

theorem K43 (n : Nat) : PlOK (G43 n) noInl lay43 19 (P43 n) c43 (fnK lay43 [.tmp 2] [.val (.slice (.int .i32))] [.val (.slice (.int .u8))] [.slice (.int .u8)]) :=
  ⟨trivial, ⟨trivial, ⟨⟨trivial, ⟨by kernel_rfl, fun x => by kernel_rfl, fun m => ⟨fun x => by kernel_rfl, trivial⟩⟩⟩, trivial⟩⟩⟩

theorem E43 (n : Nat) (a0 : List Int) : F43 n a0 = fnE [.val (.slice (.int .i32))] (argDs [.slice (.int .i32)] (a0)) (fun st => ev (G43 n) noInl lay43 19 c43 (P43 n) st (fnK lay43 [.tmp 2] [.val (.slice (.int .i32))] [.val (.slice (.int .u8))] [.slice (.int .u8)])) := by kernel_rfl

theorem T43 (n : Nat) : Told Try.prog 43 [.slice (.int .i32)] [.slice (.int .u8)] (fun x => F43 n x) := by
  rintro a0 r h
  exact calls_plain (fn_sound lay43_ok mixed (rvs := [.tmp 2]) (by kernel_rfl : Try.prog.funcs[43]? = some Try.f43) (by kernel_rfl : Try.f43.body = some c43) (by kernel_rfl) (by kernel_rfl) (by kernel_rfl) (GO43 n) noInl_ok (K43 n) ((E43 n a0).symm.trans h)) rfl rfl rfl rfl

/-! ### orthoepy/orthoepyref09.Text -/

def F40 (n : Nat) (a0 : Option (List (Int × Int) × (List (Int × List Int) × (List (Int × Int) × (List (List Int × Int) × (List (Int × Int) × (Int × Unit))))))) (a1 : List UInt8) : Option ((List UInt8)) :=
  (match F34 n (bytesOf a1) with
  | some r1 =>
  (bif (!r1.2.2) then
    some a1
  else
    (match F44 n a0 r1.1 with
    | some r2 =>
    (match F43 n r2 with
    | some r3 =>
    some (strOf r3)
    | none => none)
    | none => none))
  | none => none)

noncomputable def c40 : Code := Try.f40.body.getD .skip

noncomputable def G40 (n : Nat) : Ctx (Res [.str]) := ent 34 [.slice (.int .u8)] [.slice (.int .i32), .int .i64, .bool] (fun x => F34 n x) (ent 43 [.slice (.int .i32)] [.slice (.int .u8)] (fun x => F43 n x) (ent 44 [.ref (.pair (.map (.int .i32) (.int .i64)) (.pair (.map (.int .i32) (.arr 2 (.int .i32))) (.pair (.map (.int .i32) (.int .i32)) (.pair (.map (.arr 2 (.int .i32)) (.int .i32)) (.pair (.map (.int .i32) (.int .i64)) (.pair (.int .i64) .unit)))))), .slice (.int .i32)] [.slice (.int .i32)] (fun x => F44 n x.1 x.2) (noFns)))

theorem GO40 (n : Nat) : CtxOK Try.prog lay0 (G40 n) := ent_ok (T34 n) (fun _ _ h => h) (ent_ok (T43 n) (fun _ _ h => h) (ent_ok (T44 n) (fun _ _ h => h) (noFns_ok)))

noncomputable def P40 (n : Nat) : Pl (Res [.str]) :=
  .leaf

theorem K40 (n : Nat) : PlOK (G40 n) noInl lay0 23 (P40 n) c40 (fnK lay0 [.tmp 4] [.val (.ref (.pair (.map (.int .i32) (.int .i64)) (.pair (.map (.int .i32) (.arr 2 (.int .i32))) (.pair (.map (.int .i32) (.int .i32)) (.pair (.map (.arr 2 (.int .i32)) (.int .i32)) (.pair (.map (.int .i32) (.int .i64)) (.pair (.int .i64) .unit))))))), .val .str] [.val .str] [.str]) :=
  trivial

theorem E40 (n : Nat) (a0 : Option (List (Int × Int) × (List (Int × List Int) × (List (Int × Int) × (List (List Int × Int) × (List (Int × Int) × (Int × Unit))))))) (a1 : List UInt8) : F40 n a0 a1 = fnE [.val (.ref (.pair (.map (.int .i32) (.int .i64)) (.pair (.map (.int .i32) (.arr 2 (.int .i32))) (.pair (.map (.int .i32) (.int .i32)) (.pair (.map (.arr 2 (.int .i32)) (.int .i32)) (.pair (.map (.int .i32) (.int .i64)) (.pair (.int .i64) .unit))))))), .val .str] (argDs [.ref (.pair (.map (.int .i32) (.int .i64)) (.pair (.map (.int .i32) (.arr 2 (.int .i32))) (.pair (.map (.int .i32) (.int .i32)) (.pair (.map (.arr 2 (.int .i32)) (.int .i32)) (.pair (.map (.int .i32) (.int .i64)) (.pair (.int .i64) .unit)))))), .str] (a0, a1)) (fun st => ev (G40 n) noInl lay0 23 c40 (P40 n) st (fnK lay0 [.tmp 4] [.val (.ref (.pair (.map (.int .i32) (.int .i64)) (.pair (.map (.int .i32) (.arr 2 (.int .i32))) (.pair (.map (.int .i32) (.int .i32)) (.pair (.map (.arr 2 (.int .i32)) (.int .i32)) (.pair (.map (.int .i32) (.int .i64)) (.pair (.int .i64) .unit))))))), .val .str] [.val .str] [.str])) := by kernel_rfl

theorem T40 (n : Nat) : Told Try.prog 40 [.ref (.pair (.map (.int .i32) (.int .i64)) (.pair (.map (.int .i32) (.arr 2 (.int .i32))) (.pair (.map (.int .i32) (.int .i32)) (.pair (.map (.arr 2 (.int .i32)) (.int .i32)) (.pair (.map (.int .i32) (.int .i64)) (.pair (.int .i64) .unit)))))), .str] [.str] (fun x => F40 n x.1 x.2) := by
  rintro ⟨a0, a1⟩ r h
  exact calls_plain (fn_sound lay0_ok mixed (rvs := [.tmp 4]) (by kernel_rfl : Try.prog.funcs[40]? = some Try.f40) (by kernel_rfl : Try.f40.body = some c40) (by kernel_rfl) (by kernel_rfl) (by kernel_rfl) (GO40 n) noInl_ok (K40 n) ((E40 n a0 a1).symm.trans h)) rfl rfl rfl rfl

end Go.Proofs.Ytdkelhdlfeendaa.Ab
