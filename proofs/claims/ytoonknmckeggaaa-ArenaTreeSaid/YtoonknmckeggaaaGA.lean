/- Functions of the program as Lean functions. Printed by wip/gen/gen3.py. -/
import Derived.Test.YtoonknmckeggaaaC23
import Derived.Test.YtoonknmckeggaaaChecked
namespace Go.Proofs.Ytoonknmckeggaaa.Ab
open Go Go.RowKit Go.Proofs
set_option maxRecDepth 100000
set_option maxHeartbeats 4000000
set_option linter.unusedVariables false

noncomputable def layL : List (Nat × LInfo) := [
  (3, ⟨Try.t3.desc, (Try.t3.zero).getD .nilFunc, 1, 8, some (.int .i64), false⟩),
  (4, ⟨Try.t4.desc, (Try.t4.zero).getD .nilFunc, 1, 1, some .bool, false⟩),
  (9, ⟨Try.t9.desc, (Try.t9.zero).getD .nilFunc, 1, 16, some .str, false⟩),
  (22, ⟨Try.t22.desc, (Try.t22.zero).getD .nilFunc, 1, 24, some (.slice (.pair (.int .i64) (.pair (.pair (.int .i64) (.pair .bool (.pair (.int .i64) (.pair .str (.pair .str (.pair (.int .i64) (.pair (.int .i64) .unit))))))) .unit))), false⟩),
  (23, ⟨Try.t23.desc, (Try.t23.zero).getD .nilFunc, 1, 24, some (.slice .str), false⟩),
  (24, ⟨Try.t24.desc, (Try.t24.zero).getD .nilFunc, 1, 8, some (.ref (.pair (.slice (.pair (.pair (.int .i64) (.pair .bool (.pair (.int .i64) (.pair .str (.pair .str (.pair (.int .i64) (.pair (.int .i64) .unit))))))) (.pair (.int .i64) (.pair (.int .i64) .unit)))) .unit)), false⟩),
  (27, ⟨Try.t27.desc, (Try.t27.zero).getD .nilFunc, 1, 24, some (.slice (.pair (.int .i64) (.pair .bool (.pair (.int .i64) (.pair .str (.pair .str (.pair (.int .i64) (.pair (.int .i64) .unit)))))))), false⟩),
  (28, ⟨Try.t28.desc, (Try.t28.zero).getD .nilFunc, 1, 24, some (.slice (.int .i64)), false⟩),
  (30, ⟨Try.t29.desc, (Try.t30.zero).getD .nilFunc, 3, 72, some (.pair (.slice (.pair (.int .i64) (.pair .bool (.pair (.int .i64) (.pair .str (.pair .str (.pair (.int .i64) (.pair (.int .i64) .unit)))))))) (.pair (.slice (.int .i64)) (.pair (.slice (.int .i64)) .unit))), false⟩),
  (35, ⟨Try.t34.desc, (Try.t35.zero).getD .nilFunc, 7, 72, some (.pair (.int .i64) (.pair .bool (.pair (.int .i64) (.pair .str (.pair .str (.pair (.int .i64) (.pair (.int .i64) .unit))))))), true⟩),
  (37, ⟨Try.t36.desc, (Try.t37.zero).getD .nilFunc, 8, 80, some (.pair (.int .i64) (.pair (.pair (.int .i64) (.pair .bool (.pair (.int .i64) (.pair .str (.pair .str (.pair (.int .i64) (.pair (.int .i64) .unit))))))) .unit)), false⟩),
  (50, ⟨Try.t50.desc, (Try.t50.zero).getD .nilFunc, 1, 24, some (.slice (.pair (.pair (.int .i64) (.pair .bool (.pair (.int .i64) (.pair .str (.pair .str (.pair (.int .i64) (.pair (.int .i64) .unit))))))) (.pair (.int .i64) (.pair (.int .i64) .unit)))), false⟩),
  (52, ⟨Try.t51.desc, (Try.t52.zero).getD .nilFunc, 1, 24, some (.pair (.slice (.pair (.pair (.int .i64) (.pair .bool (.pair (.int .i64) (.pair .str (.pair .str (.pair (.int .i64) (.pair (.int .i64) .unit))))))) (.pair (.int .i64) (.pair (.int .i64) .unit)))) .unit), false⟩),
  (53, ⟨Try.t53.desc, (Try.t53.zero).getD .nilFunc, 1, 8, some (.ref (.pair (.pair (.int .i64) (.pair .bool (.pair (.int .i64) (.pair .str (.pair .str (.pair (.int .i64) (.pair (.int .i64) .unit))))))) (.pair (.int .i64) (.pair (.int .i64) .unit)))), false⟩),
  (57, ⟨Try.t56.desc, (Try.t57.zero).getD .nilFunc, 9, 88, some (.pair (.pair (.int .i64) (.pair .bool (.pair (.int .i64) (.pair .str (.pair .str (.pair (.int .i64) (.pair (.int .i64) .unit))))))) (.pair (.int .i64) (.pair (.int .i64) .unit))), false⟩)]

theorem layAll : LayAll Try.prog layL := by
  refine .cons (by kernel_rfl) (by kernel_rfl) (by kernel_rfl) ?_
  refine .cons (by kernel_rfl) (by kernel_rfl) (by kernel_rfl) ?_
  refine .cons (by kernel_rfl) (by kernel_rfl) (by kernel_rfl) ?_
  refine .cons (by kernel_rfl) (by kernel_rfl) (by kernel_rfl) ?_
  refine .cons (by kernel_rfl) (by kernel_rfl) (by kernel_rfl) ?_
  refine .cons (by kernel_rfl) (by kernel_rfl) (by kernel_rfl) ?_
  refine .cons (by kernel_rfl) (by kernel_rfl) (by kernel_rfl) ?_
  refine .cons (by kernel_rfl) (by kernel_rfl) (by kernel_rfl) ?_
  refine .cons (by kernel_rfl) (by kernel_rfl) (by kernel_rfl) ?_
  refine .cons (by kernel_rfl) (by kernel_rfl) (by kernel_rfl) ?_
  refine .cons (by kernel_rfl) (by kernel_rfl) (by kernel_rfl) ?_
  refine .cons (by kernel_rfl) (by kernel_rfl) (by kernel_rfl) ?_
  refine .cons (by kernel_rfl) (by kernel_rfl) (by kernel_rfl) ?_
  refine .cons (by kernel_rfl) (by kernel_rfl) (by kernel_rfl) ?_
  refine .cons (by kernel_rfl) (by kernel_rfl) (by kernel_rfl) ?_
  exact .nil

theorem mixed : Try.prog.follows .mixedOrders = true := by kernel_rfl

theorem layEq : ∀ t i, layF layL t = some i → EqOK Try.prog (layF layL) t i := eq_all (by kernel_rfl)

noncomputable def lay0 : Lay := layOf layL []
theorem lay0_ok : LayOK Try.prog lay0 := layOf_ok layAll (by simp) layEq


/-! ### (*orthoepy/arena.Arena).Len -/

def F13 (n : Nat) (a0 : Option (List ((Int × (Bool × (Int × (List UInt8 × (List UInt8 × (Int × (Int × Unit))))))) × (Int × (Int × Unit))) × Unit)) : Option (Int) :=
  (bif (Option.isSome a0) then
  some (((Option.getD a0 (Ty.dflt (.pair (.slice (.pair (.pair (.int .i64) (.pair .bool (.pair (.int .i64) (.pair .str (.pair .str (.pair (.int .i64) (.pair (.int .i64) .unit))))))) (.pair (.int .i64) (.pair (.int .i64) .unit)))) .unit))).1).length : Int)
  else none)

noncomputable def c13 : Code := Try.f13.body.getD .skip

noncomputable def G13 (n : Nat) : Ctx (Res [.int .i64]) := noFns

theorem GO13 (n : Nat) : CtxOK Try.prog lay0 (G13 n) := noFns_ok

noncomputable def P13 (n : Nat) : Pl (Res [.int .i64]) :=
  .leaf

theorem K13 (n : Nat) : PlOK (G13 n) noInl lay0 8 (P13 n) c13 (fnK lay0 [.tmp 2] [.val (.ref (.pair (.slice (.pair (.pair (.int .i64) (.pair .bool (.pair (.int .i64) (.pair .str (.pair .str (.pair (.int .i64) (.pair (.int .i64) .unit))))))) (.pair (.int .i64) (.pair (.int .i64) .unit)))) .unit))] [.val (.int .i64)] [.int .i64]) :=
  trivial

theorem E13 (n : Nat) (a0 : Option (List ((Int × (Bool × (Int × (List UInt8 × (List UInt8 × (Int × (Int × Unit))))))) × (Int × (Int × Unit))) × Unit)) : F13 n a0 = fnE [.val (.ref (.pair (.slice (.pair (.pair (.int .i64) (.pair .bool (.pair (.int .i64) (.pair .str (.pair .str (.pair (.int .i64) (.pair (.int .i64) .unit))))))) (.pair (.int .i64) (.pair (.int .i64) .unit)))) .unit))] (argDs [.ref (.pair (.slice (.pair (.pair (.int .i64) (.pair .bool (.pair (.int .i64) (.pair .str (.pair .str (.pair (.int .i64) (.pair (.int .i64) .unit))))))) (.pair (.int .i64) (.pair (.int .i64) .unit)))) .unit)] (a0)) (fun st => ev (G13 n) noInl lay0 8 c13 (P13 n) st (fnK lay0 [.tmp 2] [.val (.ref (.pair (.slice (.pair (.pair (.int .i64) (.pair .bool (.pair (.int .i64) (.pair .str (.pair .str (.pair (.int .i64) (.pair (.int .i64) .unit))))))) (.pair (.int .i64) (.pair (.int .i64) .unit)))) .unit))] [.val (.int .i64)] [.int .i64])) := by kernel_rfl

theorem T13 (n : Nat) : Told Try.prog 13 [.ref (.pair (.slice (.pair (.pair (.int .i64) (.pair .bool (.pair (.int .i64) (.pair .str (.pair .str (.pair (.int .i64) (.pair (.int .i64) .unit))))))) (.pair (.int .i64) (.pair (.int .i64) .unit)))) .unit)] [.int .i64] (fun x => F13 n x) := by
  rintro a0 r h
  exact calls_plain (fn_sound lay0_ok mixed (rvs := [.tmp 2]) (by kernel_rfl : Try.prog.funcs[13]? = some Try.f13) (by kernel_rfl : Try.f13.body = some c13) (by kernel_rfl) (by kernel_rfl) (by kernel_rfl) (GO13 n) noInl_ok (K13 n) ((E13 n a0).symm.trans h)) rfl rfl rfl rfl

/-! ### (*orthoepy/arena.Arena).at -/

def F24 (n : Nat) (a0 : Option (List ((Int × (Bool × (Int × (List UInt8 × (List UInt8 × (Int × (Int × Unit))))))) × (Int × (Int × Unit))) × Unit)) (a1 : Int) : Option ((Option ((Int × (Bool × (Int × (List UInt8 × (List UInt8 × (Int × (Int × Unit))))))) × (Int × (Int × Unit))))) :=
  (bif (decide (a1 < 0)) then
    some none
  else
    (bif (Option.isSome a0) then
    (bif (decide (a1 ≥ (((Option.getD a0 (Ty.dflt (.pair (.slice (.pair (.pair (.int .i64) (.pair .bool (.pair (.int .i64) (.pair .str (.pair .str (.pair (.int .i64) (.pair (.int .i64) .unit))))))) (.pair (.int .i64) (.pair (.int .i64) .unit)))) .unit))).1).length : Int))) then
      some none
    else
      (bif (Option.isSome a0) then
      (bif inB a1 ((Option.getD a0 (Ty.dflt (.pair (.slice (.pair (.pair (.int .i64) (.pair .bool (.pair (.int .i64) (.pair .str (.pair .str (.pair (.int .i64) (.pair (.int .i64) .unit))))))) (.pair (.int .i64) (.pair (.int .i64) .unit)))) .unit))).1).length then
      some (some (((Option.getD a0 (Ty.dflt (.pair (.slice (.pair (.pair (.int .i64) (.pair .bool (.pair (.int .i64) (.pair .str (.pair .str (.pair (.int .i64) (.pair (.int .i64) .unit))))))) (.pair (.int .i64) (.pair (.int .i64) .unit)))) .unit))).1).getD (Int.toNat a1) (Ty.dflt (.pair (.pair (.int .i64) (.pair .bool (.pair (.int .i64) (.pair .str (.pair .str (.pair (.int .i64) (.pair (.int .i64) .unit))))))) (.pair (.int .i64) (.pair (.int .i64) .unit))))))
      else none)
      else none))
    else none))

noncomputable def c24 : Code := Try.f24.body.getD .skip

noncomputable def G24 (n : Nat) : Ctx (Res [.ref (.pair (.pair (.int .i64) (.pair .bool (.pair (.int .i64) (.pair .str (.pair .str (.pair (.int .i64) (.pair (.int .i64) .unit))))))) (.pair (.int .i64) (.pair (.int .i64) .unit)))]) := noFns

theorem GO24 (n : Nat) : CtxOK Try.prog lay0 (G24 n) := noFns_ok

noncomputable def P24 (n : Nat) : Pl (Res [.ref (.pair (.pair (.int .i64) (.pair .bool (.pair (.int .i64) (.pair .str (.pair .str (.pair (.int .i64) (.pair (.int .i64) .unit))))))) (.pair (.int .i64) (.pair (.int .i64) .unit)))]) :=
  .leaf

theorem K24 (n : Nat) : PlOK (G24 n) noInl lay0 22 (P24 n) c24 (fnK lay0 [.tmp 4] [.val (.ref (.pair (.slice (.pair (.pair (.int .i64) (.pair .bool (.pair (.int .i64) (.pair .str (.pair .str (.pair (.int .i64) (.pair (.int .i64) .unit))))))) (.pair (.int .i64) (.pair (.int .i64) .unit)))) .unit)), .val (.int .i64)] [.val (.ref (.pair (.pair (.int .i64) (.pair .bool (.pair (.int .i64) (.pair .str (.pair .str (.pair (.int .i64) (.pair (.int .i64) .unit))))))) (.pair (.int .i64) (.pair (.int .i64) .unit))))] [.ref (.pair (.pair (.int .i64) (.pair .bool (.pair (.int .i64) (.pair .str (.pair .str (.pair (.int .i64) (.pair (.int .i64) .unit))))))) (.pair (.int .i64) (.pair (.int .i64) .unit)))]) :=
  trivial

theorem E24 (n : Nat) (a0 : Option (List ((Int × (Bool × (Int × (List UInt8 × (List UInt8 × (Int × (Int × Unit))))))) × (Int × (Int × Unit))) × Unit)) (a1 : Int) : F24 n a0 a1 = fnE [.val (.ref (.pair (.slice (.pair (.pair (.int .i64) (.pair .bool (.pair (.int .i64) (.pair .str (.pair .str (.pair (.int .i64) (.pair (.int .i64) .unit))))))) (.pair (.int .i64) (.pair (.int .i64) .unit)))) .unit)), .val (.int .i64)] (argDs [.ref (.pair (.slice (.pair (.pair (.int .i64) (.pair .bool (.pair (.int .i64) (.pair .str (.pair .str (.pair (.int .i64) (.pair (.int .i64) .unit))))))) (.pair (.int .i64) (.pair (.int .i64) .unit)))) .unit), .int .i64] (a0, a1)) (fun st => ev (G24 n) noInl lay0 22 c24 (P24 n) st (fnK lay0 [.tmp 4] [.val (.ref (.pair (.slice (.pair (.pair (.int .i64) (.pair .bool (.pair (.int .i64) (.pair .str (.pair .str (.pair (.int .i64) (.pair (.int .i64) .unit))))))) (.pair (.int .i64) (.pair (.int .i64) .unit)))) .unit)), .val (.int .i64)] [.val (.ref (.pair (.pair (.int .i64) (.pair .bool (.pair (.int .i64) (.pair .str (.pair .str (.pair (.int .i64) (.pair (.int .i64) .unit))))))) (.pair (.int .i64) (.pair (.int .i64) .unit))))] [.ref (.pair (.pair (.int .i64) (.pair .bool (.pair (.int .i64) (.pair .str (.pair .str (.pair (.int .i64) (.pair (.int .i64) .unit))))))) (.pair (.int .i64) (.pair (.int .i64) .unit)))])) := by kernel_rfl

theorem T24 (n : Nat) : Told Try.prog 24 [.ref (.pair (.slice (.pair (.pair (.int .i64) (.pair .bool (.pair (.int .i64) (.pair .str (.pair .str (.pair (.int .i64) (.pair (.int .i64) .unit))))))) (.pair (.int .i64) (.pair (.int .i64) .unit)))) .unit), .int .i64] [.ref (.pair (.pair (.int .i64) (.pair .bool (.pair (.int .i64) (.pair .str (.pair .str (.pair (.int .i64) (.pair (.int .i64) .unit))))))) (.pair (.int .i64) (.pair (.int .i64) .unit)))] (fun x => F24 n x.1 x.2) := by
  rintro ⟨a0, a1⟩ r h
  exact calls_plain (fn_sound lay0_ok mixed (rvs := [.tmp 4]) (by kernel_rfl : Try.prog.funcs[24]? = some Try.f24) (by kernel_rfl : Try.f24.body = some c24) (by kernel_rfl) (by kernel_rfl) (by kernel_rfl) (GO24 n) noInl_ok (K24 n) ((E24 n a0 a1).symm.trans h)) rfl rfl rfl rfl

/-! ### orthoepy/arena.open -/

def F25 (n : Nat) (a0 : Int) : Option (Bool) :=
  (bif (a0 == 5) then
    some true
  else
    some (a0 == 6))

noncomputable def c25 : Code := Try.f25.body.getD .skip

noncomputable def G25 (n : Nat) : Ctx (Res [.bool]) := noFns

theorem GO25 (n : Nat) : CtxOK Try.prog lay0 (G25 n) := noFns_ok

noncomputable def P25 (n : Nat) : Pl (Res [.bool]) :=
  .leaf

theorem K25 (n : Nat) : PlOK (G25 n) noInl lay0 9 (P25 n) c25 (fnK lay0 [.tmp 2] [.val (.int .i64)] [.val .bool] [.bool]) :=
  trivial

theorem E25 (n : Nat) (a0 : Int) : F25 n a0 = fnE [.val (.int .i64)] (argDs [.int .i64] (a0)) (fun st => ev (G25 n) noInl lay0 9 c25 (P25 n) st (fnK lay0 [.tmp 2] [.val (.int .i64)] [.val .bool] [.bool])) := by kernel_rfl

theorem T25 (n : Nat) : Told Try.prog 25 [.int .i64] [.bool] (fun x => F25 n x) := by
  rintro a0 r h
  exact calls_plain (fn_sound lay0_ok mixed (rvs := [.tmp 2]) (by kernel_rfl : Try.prog.funcs[25]? = some Try.f25) (by kernel_rfl : Try.f25.body = some c25) (by kernel_rfl) (by kernel_rfl) (by kernel_rfl) (GO25 n) noInl_ok (K25 n) ((E25 n a0).symm.trans h)) rfl rfl rfl rfl

/-! ### orthoepy/arena.kept -/

def F26 (n : Nat) (a0 : (Int × (Bool × (Int × (List UInt8 × (List UInt8 × (Int × (Int × Unit)))))))) (a1 : Int) : Option ((Int × (Bool × (Int × (List UInt8 × (List UInt8 × (Int × (Int × Unit)))))))) :=
  (bif (a0.1 == 2) then
    (bif (a1 == 6) then
      some (a0.1, (a0.2.1, (0, (([] : List UInt8), (a0.2.2.2.2.1, ((-1), ((-1), ())))))))
    else
      some (a0.1, (a0.2.1, (0, (([] : List UInt8), (([] : List UInt8), ((-1), ((-1), ()))))))))
  else
    (bif (a0.1 == 3) then
      (bif (a1 == 6) then
        some (a0.1, (false, (a0.2.2.1, (([] : List UInt8), (a0.2.2.2.2.1, ((-1), ((-1), ())))))))
      else
        some (a0.1, (false, (a0.2.2.1, (([] : List UInt8), (([] : List UInt8), ((-1), ((-1), ()))))))))
    else
      (bif (a0.1 == 4) then
        (bif (a1 == 6) then
          some (a0.1, (false, (0, (a0.2.2.2.1, (a0.2.2.2.2.1, ((-1), ((-1), ())))))))
        else
          some (a0.1, (false, (0, (a0.2.2.2.1, (([] : List UInt8), ((-1), ((-1), ()))))))))
      else
        (bif (a1 == 6) then
          some (a0.1, (false, (0, (([] : List UInt8), (a0.2.2.2.2.1, ((-1), ((-1), ())))))))
        else
          some (a0.1, (false, (0, (([] : List UInt8), (([] : List UInt8), ((-1), ((-1), ())))))))))))

noncomputable def c26 : Code := Try.f26.body.getD .skip

noncomputable def G26 (n : Nat) : Ctx (Res [.pair (.int .i64) (.pair .bool (.pair (.int .i64) (.pair .str (.pair .str (.pair (.int .i64) (.pair (.int .i64) .unit))))))]) := noFns

theorem GO26 (n : Nat) : CtxOK Try.prog lay0 (G26 n) := noFns_ok

noncomputable def P26 (n : Nat) : Pl (Res [.pair (.int .i64) (.pair .bool (.pair (.int .i64) (.pair .str (.pair .str (.pair (.int .i64) (.pair (.int .i64) .unit))))))]) :=
  .leaf

theorem K26 (n : Nat) : PlOK (G26 n) noInl lay0 32 (P26 n) c26 (fnK lay0 [.cell 4 35] [.val (.pair (.int .i64) (.pair .bool (.pair (.int .i64) (.pair .str (.pair .str (.pair (.int .i64) (.pair (.int .i64) .unit))))))), .val (.int .i64)] [.val (.pair (.int .i64) (.pair .bool (.pair (.int .i64) (.pair .str (.pair .str (.pair (.int .i64) (.pair (.int .i64) .unit)))))))] [.pair (.int .i64) (.pair .bool (.pair (.int .i64) (.pair .str (.pair .str (.pair (.int .i64) (.pair (.int .i64) .unit))))))]) :=
  trivial

theorem E26 (n : Nat) (a0 : (Int × (Bool × (Int × (List UInt8 × (List UInt8 × (Int × (Int × Unit)))))))) (a1 : Int) : F26 n a0 a1 = fnE [.val (.pair (.int .i64) (.pair .bool (.pair (.int .i64) (.pair .str (.pair .str (.pair (.int .i64) (.pair (.int .i64) .unit))))))), .val (.int .i64)] (argDs [.pair (.int .i64) (.pair .bool (.pair (.int .i64) (.pair .str (.pair .str (.pair (.int .i64) (.pair (.int .i64) .unit)))))), .int .i64] (a0, a1)) (fun st => ev (G26 n) noInl lay0 32 c26 (P26 n) st (fnK lay0 [.cell 4 35] [.val (.pair (.int .i64) (.pair .bool (.pair (.int .i64) (.pair .str (.pair .str (.pair (.int .i64) (.pair (.int .i64) .unit))))))), .val (.int .i64)] [.val (.pair (.int .i64) (.pair .bool (.pair (.int .i64) (.pair .str (.pair .str (.pair (.int .i64) (.pair (.int .i64) .unit)))))))] [.pair (.int .i64) (.pair .bool (.pair (.int .i64) (.pair .str (.pair .str (.pair (.int .i64) (.pair (.int .i64) .unit))))))])) := by kernel_rfl

theorem T26 (n : Nat) : Told Try.prog 26 [.pair (.int .i64) (.pair .bool (.pair (.int .i64) (.pair .str (.pair .str (.pair (.int .i64) (.pair (.int .i64) .unit)))))), .int .i64] [.pair (.int .i64) (.pair .bool (.pair (.int .i64) (.pair .str (.pair .str (.pair (.int .i64) (.pair (.int .i64) .unit))))))] (fun x => F26 n x.1 x.2) := by
  rintro ⟨a0, a1⟩ r h
  exact calls_plain (fn_sound lay0_ok mixed (rvs := [.cell 4 35]) (by kernel_rfl : Try.prog.funcs[26]? = some Try.f26) (by kernel_rfl : Try.f26.body = some c26) (by kernel_rfl) (by kernel_rfl) (by kernel_rfl) (GO26 n) noInl_ok (K26 n) ((E26 n a0 a1).symm.trans h)) rfl rfl rfl rfl

/-! ### (*orthoepy/arena.Arena).Node -/

def F19 (n : Nat) (a0 : Option (List ((Int × (Bool × (Int × (List UInt8 × (List UInt8 × (Int × (Int × Unit))))))) × (Int × (Int × Unit))) × Unit)) (a1 : Int) : Option ((Int × (Bool × (Int × (List UInt8 × (List UInt8 × (Int × (Int × Unit))))))) × Bool) :=
  (match F24 n a0 a1 with
  | some r1 =>
  (bif (Option.isNone r1) then
    some ((0, (false, (0, (([] : List UInt8), (([] : List UInt8), (0, (0, ()))))))), false)
  else
    (bif (Option.isSome r1) then
    some ((Option.getD r1 (Ty.dflt (.pair (.pair (.int .i64) (.pair .bool (.pair (.int .i64) (.pair .str (.pair .str (.pair (.int .i64) (.pair (.int .i64) .unit))))))) (.pair (.int .i64) (.pair (.int .i64) .unit))))).1, true)
    else none))
  | none => none)

noncomputable def c19 : Code := Try.f19.body.getD .skip

noncomputable def G19 (n : Nat) : Ctx (Res [.pair (.int .i64) (.pair .bool (.pair (.int .i64) (.pair .str (.pair .str (.pair (.int .i64) (.pair (.int .i64) .unit)))))), .bool]) := ent 24 [.ref (.pair (.slice (.pair (.pair (.int .i64) (.pair .bool (.pair (.int .i64) (.pair .str (.pair .str (.pair (.int .i64) (.pair (.int .i64) .unit))))))) (.pair (.int .i64) (.pair (.int .i64) .unit)))) .unit), .int .i64] [.ref (.pair (.pair (.int .i64) (.pair .bool (.pair (.int .i64) (.pair .str (.pair .str (.pair (.int .i64) (.pair (.int .i64) .unit))))))) (.pair (.int .i64) (.pair (.int .i64) .unit)))] (fun x => F24 n x.1 x.2) (noFns)

theorem GO19 (n : Nat) : CtxOK Try.prog lay0 (G19 n) := ent_ok (T24 n) (fun _ _ h => h) (noFns_ok)

noncomputable def P19 (n : Nat) : Pl (Res [.pair (.int .i64) (.pair .bool (.pair (.int .i64) (.pair .str (.pair .str (.pair (.int .i64) (.pair (.int .i64) .unit)))))), .bool]) :=
  .leaf

theorem K19 (n : Nat) : PlOK (G19 n) noInl lay0 17 (P19 n) c19 (fnK lay0 [.cell 4 35, .tmp 5] [.val (.ref (.pair (.slice (.pair (.pair (.int .i64) (.pair .bool (.pair (.int .i64) (.pair .str (.pair .str (.pair (.int .i64) (.pair (.int .i64) .unit))))))) (.pair (.int .i64) (.pair (.int .i64) .unit)))) .unit)), .val (.int .i64)] [.val (.pair (.int .i64) (.pair .bool (.pair (.int .i64) (.pair .str (.pair .str (.pair (.int .i64) (.pair (.int .i64) .unit))))))), .val .bool] [.pair (.int .i64) (.pair .bool (.pair (.int .i64) (.pair .str (.pair .str (.pair (.int .i64) (.pair (.int .i64) .unit)))))), .bool]) :=
  trivial

theorem E19 (n : Nat) (a0 : Option (List ((Int × (Bool × (Int × (List UInt8 × (List UInt8 × (Int × (Int × Unit))))))) × (Int × (Int × Unit))) × Unit)) (a1 : Int) : F19 n a0 a1 = fnE [.val (.ref (.pair (.slice (.pair (.pair (.int .i64) (.pair .bool (.pair (.int .i64) (.pair .str (.pair .str (.pair (.int .i64) (.pair (.int .i64) .unit))))))) (.pair (.int .i64) (.pair (.int .i64) .unit)))) .unit)), .val (.int .i64)] (argDs [.ref (.pair (.slice (.pair (.pair (.int .i64) (.pair .bool (.pair (.int .i64) (.pair .str (.pair .str (.pair (.int .i64) (.pair (.int .i64) .unit))))))) (.pair (.int .i64) (.pair (.int .i64) .unit)))) .unit), .int .i64] (a0, a1)) (fun st => ev (G19 n) noInl lay0 17 c19 (P19 n) st (fnK lay0 [.cell 4 35, .tmp 5] [.val (.ref (.pair (.slice (.pair (.pair (.int .i64) (.pair .bool (.pair (.int .i64) (.pair .str (.pair .str (.pair (.int .i64) (.pair (.int .i64) .unit))))))) (.pair (.int .i64) (.pair (.int .i64) .unit)))) .unit)), .val (.int .i64)] [.val (.pair (.int .i64) (.pair .bool (.pair (.int .i64) (.pair .str (.pair .str (.pair (.int .i64) (.pair (.int .i64) .unit))))))), .val .bool] [.pair (.int .i64) (.pair .bool (.pair (.int .i64) (.pair .str (.pair .str (.pair (.int .i64) (.pair (.int .i64) .unit)))))), .bool])) := by kernel_rfl

theorem T19 (n : Nat) : Told Try.prog 19 [.ref (.pair (.slice (.pair (.pair (.int .i64) (.pair .bool (.pair (.int .i64) (.pair .str (.pair .str (.pair (.int .i64) (.pair (.int .i64) .unit))))))) (.pair (.int .i64) (.pair (.int .i64) .unit)))) .unit), .int .i64] [.pair (.int .i64) (.pair .bool (.pair (.int .i64) (.pair .str (.pair .str (.pair (.int .i64) (.pair (.int .i64) .unit)))))), .bool] (fun x => F19 n x.1 x.2) := by
  rintro ⟨a0, a1⟩ r h
  exact calls_plain (fn_sound lay0_ok mixed (rvs := [.cell 4 35, .tmp 5]) (by kernel_rfl : Try.prog.funcs[19]? = some Try.f19) (by kernel_rfl : Try.f19.body = some c19) (by kernel_rfl) (by kernel_rfl) (by kernel_rfl) (GO19 n) noInl_ok (K19 n) ((E19 n a0 a1).symm.trans h)) rfl rfl rfl rfl

/-! ### (*orthoepy/arena.Arena).Parent -/

def F21 (n : Nat) (a0 : Option (List ((Int × (Bool × (Int × (List UInt8 × (List UInt8 × (Int × (Int × Unit))))))) × (Int × (Int × Unit))) × Unit)) (a1 : Int) : Option (Int) :=
  (match F24 n a0 a1 with
  | some r1 =>
  (bif (Option.isNone r1) then
    some (-1)
  else
    (bif (Option.isSome r1) then
    some (Option.getD r1 (Ty.dflt (.pair (.pair (.int .i64) (.pair .bool (.pair (.int .i64) (.pair .str (.pair .str (.pair (.int .i64) (.pair (.int .i64) .unit))))))) (.pair (.int .i64) (.pair (.int .i64) .unit))))).2.1
    else none))
  | none => none)

noncomputable def c21 : Code := Try.f21.body.getD .skip

noncomputable def G21 (n : Nat) : Ctx (Res [.int .i64]) := ent 24 [.ref (.pair (.slice (.pair (.pair (.int .i64) (.pair .bool (.pair (.int .i64) (.pair .str (.pair .str (.pair (.int .i64) (.pair (.int .i64) .unit))))))) (.pair (.int .i64) (.pair (.int .i64) .unit)))) .unit), .int .i64] [.ref (.pair (.pair (.int .i64) (.pair .bool (.pair (.int .i64) (.pair .str (.pair .str (.pair (.int .i64) (.pair (.int .i64) .unit))))))) (.pair (.int .i64) (.pair (.int .i64) .unit)))] (fun x => F24 n x.1 x.2) (noFns)

theorem GO21 (n : Nat) : CtxOK Try.prog lay0 (G21 n) := ent_ok (T24 n) (fun _ _ h => h) (noFns_ok)

noncomputable def P21 (n : Nat) : Pl (Res [.int .i64]) :=
  .leaf

theorem K21 (n : Nat) : PlOK (G21 n) noInl lay0 15 (P21 n) c21 (fnK lay0 [.tmp 4] [.val (.ref (.pair (.slice (.pair (.pair (.int .i64) (.pair .bool (.pair (.int .i64) (.pair .str (.pair .str (.pair (.int .i64) (.pair (.int .i64) .unit))))))) (.pair (.int .i64) (.pair (.int .i64) .unit)))) .unit)), .val (.int .i64)] [.val (.int .i64)] [.int .i64]) :=
  trivial

theorem E21 (n : Nat) (a0 : Option (List ((Int × (Bool × (Int × (List UInt8 × (List UInt8 × (Int × (Int × Unit))))))) × (Int × (Int × Unit))) × Unit)) (a1 : Int) : F21 n a0 a1 = fnE [.val (.ref (.pair (.slice (.pair (.pair (.int .i64) (.pair .bool (.pair (.int .i64) (.pair .str (.pair .str (.pair (.int .i64) (.pair (.int .i64) .unit))))))) (.pair (.int .i64) (.pair (.int .i64) .unit)))) .unit)), .val (.int .i64)] (argDs [.ref (.pair (.slice (.pair (.pair (.int .i64) (.pair .bool (.pair (.int .i64) (.pair .str (.pair .str (.pair (.int .i64) (.pair (.int .i64) .unit))))))) (.pair (.int .i64) (.pair (.int .i64) .unit)))) .unit), .int .i64] (a0, a1)) (fun st => ev (G21 n) noInl lay0 15 c21 (P21 n) st (fnK lay0 [.tmp 4] [.val (.ref (.pair (.slice (.pair (.pair (.int .i64) (.pair .bool (.pair (.int .i64) (.pair .str (.pair .str (.pair (.int .i64) (.pair (.int .i64) .unit))))))) (.pair (.int .i64) (.pair (.int .i64) .unit)))) .unit)), .val (.int .i64)] [.val (.int .i64)] [.int .i64])) := by kernel_rfl

theorem T21 (n : Nat) : Told Try.prog 21 [.ref (.pair (.slice (.pair (.pair (.int .i64) (.pair .bool (.pair (.int .i64) (.pair .str (.pair .str (.pair (.int .i64) (.pair (.int .i64) .unit))))))) (.pair (.int .i64) (.pair (.int .i64) .unit)))) .unit), .int .i64] [.int .i64] (fun x => F21 n x.1 x.2) := by
  rintro ⟨a0, a1⟩ r h
  exact calls_plain (fn_sound lay0_ok mixed (rvs := [.tmp 4]) (by kernel_rfl : Try.prog.funcs[21]? = some Try.f21) (by kernel_rfl : Try.f21.body = some c21) (by kernel_rfl) (by kernel_rfl) (by kernel_rfl) (GO21 n) noInl_ok (K21 n) ((E21 n a0 a1).symm.trans h)) rfl rfl rfl rfl

/-! ### (*orthoepy/arena.Arena).Depth -/

def F22l0F (n : Nat) (rF22l0 : Option (List ((Int × (Bool × (Int × (List UInt8 × (List UInt8 × (Int × (Int × Unit))))))) × (Int × (Int × Unit))) × Unit) → Int → Option ((Int × (Bool × (Int × (List UInt8 × (List UInt8 × (Int × (Int × Unit))))))) × (Int × (Int × Unit))) → Option (Int)) (t0 : Option (List ((Int × (Bool × (Int × (List UInt8 × (List UInt8 × (Int × (Int × Unit))))))) × (Int × (Int × Unit))) × Unit)) (t5 : Int) (t6 : Option ((Int × (Bool × (Int × (List UInt8 × (List UInt8 × (Int × (Int × Unit))))))) × (Int × (Int × Unit)))) : Option (Int) :=
  (bif (!(Option.isNone t6)) then
    (bif (Option.isSome t6) then
    (match F25 n (Option.getD t6 (Ty.dflt (.pair (.pair (.int .i64) (.pair .bool (.pair (.int .i64) (.pair .str (.pair .str (.pair (.int .i64) (.pair (.int .i64) .unit))))))) (.pair (.int .i64) (.pair (.int .i64) .unit))))).1.1 with
    | some r2 =>
    (bif r2 then
      (bif (Option.isSome t6) then
      (match F24 n t0 (Option.getD t6 (Ty.dflt (.pair (.pair (.int .i64) (.pair .bool (.pair (.int .i64) (.pair .str (.pair .str (.pair (.int .i64) (.pair (.int .i64) .unit))))))) (.pair (.int .i64) (.pair (.int .i64) .unit))))).2.1 with
      | some r3 =>
      rF22l0 t0 (IntKind.wrap .i64 (t5 + 1)) r3
      | none => none)
      else none)
    else
      (bif (Option.isSome t6) then
      (match F24 n t0 (Option.getD t6 (Ty.dflt (.pair (.pair (.int .i64) (.pair .bool (.pair (.int .i64) (.pair .str (.pair .str (.pair (.int .i64) (.pair (.int .i64) .unit))))))) (.pair (.int .i64) (.pair (.int .i64) .unit))))).2.1 with
      | some r4 =>
      rF22l0 t0 t5 r4
      | none => none)
      else none))
    | none => none)
    else none)
  else
    some t5)
def F22l0 (n : Nat) : Nat → Option (List ((Int × (Bool × (Int × (List UInt8 × (List UInt8 × (Int × (Int × Unit))))))) × (Int × (Int × Unit))) × Unit) → Int → Option ((Int × (Bool × (Int × (List UInt8 × (List UInt8 × (Int × (Int × Unit))))))) × (Int × (Int × Unit))) → Option (Int)
  | 0, _, _, _ => none
  | m + 1, t0, t5, t6 => F22l0F n (F22l0 n m) t0 t5 t6

def F22 (n : Nat) (a0 : Option (List ((Int × (Bool × (Int × (List UInt8 × (List UInt8 × (Int × (Int × Unit))))))) × (Int × (Int × Unit))) × Unit)) (a1 : Int) : Option (Int) :=
  (match F24 n a0 a1 with
  | some r1 =>
  F22l0 n n a0 0 r1
  | none => none)

noncomputable def c22 : Code := Try.f22.body.getD .skip

noncomputable def G22 (n : Nat) : Ctx (Res [.int .i64]) := ent 24 [.ref (.pair (.slice (.pair (.pair (.int .i64) (.pair .bool (.pair (.int .i64) (.pair .str (.pair .str (.pair (.int .i64) (.pair (.int .i64) .unit))))))) (.pair (.int .i64) (.pair (.int .i64) .unit)))) .unit), .int .i64] [.ref (.pair (.pair (.int .i64) (.pair .bool (.pair (.int .i64) (.pair .str (.pair .str (.pair (.int .i64) (.pair (.int .i64) .unit))))))) (.pair (.int .i64) (.pair (.int .i64) .unit)))] (fun x => F24 n x.1 x.2) (ent 25 [.int .i64] [.bool] (fun x => F25 n x) (noFns))

theorem GO22 (n : Nat) : CtxOK Try.prog lay0 (G22 n) := ent_ok (T24 n) (fun _ _ h => h) (ent_ok (T25 n) (fun _ _ h => h) (noFns_ok))

noncomputable def P22 (n : Nat) : Pl (Res [.int .i64]) :=
  (.two .leaf (.two .leaf (.two (.two .leaf (.one (.loop [.val (.tmp 0) (.ref (.pair (.slice (.pair (.pair (.int .i64) (.pair .bool (.pair (.int .i64) (.pair .str (.pair .str (.pair (.int .i64) (.pair (.int .i64) .unit))))))) (.pair (.int .i64) (.pair (.int .i64) .unit)))) .unit)), .val (.tmp 5) (.int .i64), .val (.tmp 6) (.ref (.pair (.pair (.int .i64) (.pair .bool (.pair (.int .i64) (.pair .str (.pair .str (.pair (.int .i64) (.pair (.int .i64) .unit))))))) (.pair (.int .i64) (.pair (.int .i64) .unit))))] n (fun m x => F22l0 n m x.1 x.2.1 x.2.2.1) (fun _ => .leaf)))) .leaf)))

theorem K22 (n : Nat) : PlOK (G22 n) noInl lay0 27 (P22 n) c22 (fnK lay0 [.tmp 4] [.val (.ref (.pair (.slice (.pair (.pair (.int .i64) (.pair .bool (.pair (.int .i64) (.pair .str (.pair .str (.pair (.int .i64) (.pair (.int .i64) .unit))))))) (.pair (.int .i64) (.pair (.int .i64) .unit)))) .unit)), .val (.int .i64)] [.val (.int .i64)] [.int .i64]) :=
  ⟨trivial, ⟨trivial, ⟨⟨trivial, ⟨by kernel_rfl, fun x => by kernel_rfl, fun m => ⟨fun x => by kernel_rfl, trivial⟩⟩⟩, trivial⟩⟩⟩

theorem E22 (n : Nat) (a0 : Option (List ((Int × (Bool × (Int × (List UInt8 × (List UInt8 × (Int × (Int × Unit))))))) × (Int × (Int × Unit))) × Unit)) (a1 : Int) : F22 n a0 a1 = fnE [.val (.ref (.pair (.slice (.pair (.pair (.int .i64) (.pair .bool (.pair (.int .i64) (.pair .str (.pair .str (.pair (.int .i64) (.pair (.int .i64) .unit))))))) (.pair (.int .i64) (.pair (.int .i64) .unit)))) .unit)), .val (.int .i64)] (argDs [.ref (.pair (.slice (.pair (.pair (.int .i64) (.pair .bool (.pair (.int .i64) (.pair .str (.pair .str (.pair (.int .i64) (.pair (.int .i64) .unit))))))) (.pair (.int .i64) (.pair (.int .i64) .unit)))) .unit), .int .i64] (a0, a1)) (fun st => ev (G22 n) noInl lay0 27 c22 (P22 n) st (fnK lay0 [.tmp 4] [.val (.ref (.pair (.slice (.pair (.pair (.int .i64) (.pair .bool (.pair (.int .i64) (.pair .str (.pair .str (.pair (.int .i64) (.pair (.int .i64) .unit))))))) (.pair (.int .i64) (.pair (.int .i64) .unit)))) .unit)), .val (.int .i64)] [.val (.int .i64)] [.int .i64])) := by kernel_rfl

theorem T22 (n : Nat) : Told Try.prog 22 [.ref (.pair (.slice (.pair (.pair (.int .i64) (.pair .bool (.pair (.int .i64) (.pair .str (.pair .str (.pair (.int .i64) (.pair (.int .i64) .unit))))))) (.pair (.int .i64) (.pair (.int .i64) .unit)))) .unit), .int .i64] [.int .i64] (fun x => F22 n x.1 x.2) := by
  rintro ⟨a0, a1⟩ r h
  exact calls_plain (fn_sound lay0_ok mixed (rvs := [.tmp 4]) (by kernel_rfl : Try.prog.funcs[22]? = some Try.f22) (by kernel_rfl : Try.f22.body = some c22) (by kernel_rfl) (by kernel_rfl) (by kernel_rfl) (GO22 n) noInl_ok (K22 n) ((E22 n a0 a1).symm.trans h)) rfl rfl rfl rfl

/-! ### (*orthoepy/orthoepyref18.Arena).in -/

def F31 (n : Nat) (a0 : Option (List (Int × (Bool × (Int × (List UInt8 × (List UInt8 × (Int × (Int × Unit))))))) × (List Int × (List Int × Unit)))) (a1 : Int) : Option (Bool) :=
  (bif (decide (a1 ≥ 0)) then
    (bif (Option.isSome a0) then
    some (decide (a1 < (((Option.getD a0 (Ty.dflt (.pair (.slice (.pair (.int .i64) (.pair .bool (.pair (.int .i64) (.pair .str (.pair .str (.pair (.int .i64) (.pair (.int .i64) .unit)))))))) (.pair (.slice (.int .i64)) (.pair (.slice (.int .i64)) .unit))))).1).length : Int)))
    else none)
  else
    some false)

noncomputable def c31 : Code := Try.f31.body.getD .skip

noncomputable def G31 (n : Nat) : Ctx (Res [.bool]) := noFns

theorem GO31 (n : Nat) : CtxOK Try.prog lay0 (G31 n) := noFns_ok

noncomputable def P31 (n : Nat) : Pl (Res [.bool]) :=
  .leaf

theorem K31 (n : Nat) : PlOK (G31 n) noInl lay0 16 (P31 n) c31 (fnK lay0 [.tmp 4] [.val (.ref (.pair (.slice (.pair (.int .i64) (.pair .bool (.pair (.int .i64) (.pair .str (.pair .str (.pair (.int .i64) (.pair (.int .i64) .unit)))))))) (.pair (.slice (.int .i64)) (.pair (.slice (.int .i64)) .unit)))), .val (.int .i64)] [.val .bool] [.bool]) :=
  trivial

theorem E31 (n : Nat) (a0 : Option (List (Int × (Bool × (Int × (List UInt8 × (List UInt8 × (Int × (Int × Unit))))))) × (List Int × (List Int × Unit)))) (a1 : Int) : F31 n a0 a1 = fnE [.val (.ref (.pair (.slice (.pair (.int .i64) (.pair .bool (.pair (.int .i64) (.pair .str (.pair .str (.pair (.int .i64) (.pair (.int .i64) .unit)))))))) (.pair (.slice (.int .i64)) (.pair (.slice (.int .i64)) .unit)))), .val (.int .i64)] (argDs [.ref (.pair (.slice (.pair (.int .i64) (.pair .bool (.pair (.int .i64) (.pair .str (.pair .str (.pair (.int .i64) (.pair (.int .i64) .unit)))))))) (.pair (.slice (.int .i64)) (.pair (.slice (.int .i64)) .unit))), .int .i64] (a0, a1)) (fun st => ev (G31 n) noInl lay0 16 c31 (P31 n) st (fnK lay0 [.tmp 4] [.val (.ref (.pair (.slice (.pair (.int .i64) (.pair .bool (.pair (.int .i64) (.pair .str (.pair .str (.pair (.int .i64) (.pair (.int .i64) .unit)))))))) (.pair (.slice (.int .i64)) (.pair (.slice (.int .i64)) .unit)))), .val (.int .i64)] [.val .bool] [.bool])) := by kernel_rfl

theorem T31 (n : Nat) : Told Try.prog 31 [.ref (.pair (.slice (.pair (.int .i64) (.pair .bool (.pair (.int .i64) (.pair .str (.pair .str (.pair (.int .i64) (.pair (.int .i64) .unit)))))))) (.pair (.slice (.int .i64)) (.pair (.slice (.int .i64)) .unit))), .int .i64] [.bool] (fun x => F31 n x.1 x.2) := by
  rintro ⟨a0, a1⟩ r h
  exact calls_plain (fn_sound lay0_ok mixed (rvs := [.tmp 4]) (by kernel_rfl : Try.prog.funcs[31]? = some Try.f31) (by kernel_rfl : Try.f31.body = some c31) (by kernel_rfl) (by kernel_rfl) (by kernel_rfl) (GO31 n) noInl_ok (K31 n) ((E31 n a0 a1).symm.trans h)) rfl rfl rfl rfl

/-! ### (*orthoepy/orthoepyref18.Arena).Find -/

def F16l0F (n : Nat) (rF16l0 : Option (List (Int × (Bool × (Int × (List UInt8 × (List UInt8 × (Int × (Int × Unit))))))) × (List Int × (List Int × Unit))) → List UInt8 → Int → Option (Int)) (t0 : Option (List (Int × (Bool × (Int × (List UInt8 × (List UInt8 × (Int × (Int × Unit))))))) × (List Int × (List Int × Unit)))) (t2 : List UInt8) (t7 : Int) : Option (Int) :=
  (bif (decide (t7 ≥ 0)) then
    (bif (Option.isSome t0) then
    (bif inB t7 ((Option.getD t0 (Ty.dflt (.pair (.slice (.pair (.int .i64) (.pair .bool (.pair (.int .i64) (.pair .str (.pair .str (.pair (.int .i64) (.pair (.int .i64) .unit)))))))) (.pair (.slice (.int .i64)) (.pair (.slice (.int .i64)) .unit))))).1).length then
    (bif ((((Option.getD t0 (Ty.dflt (.pair (.slice (.pair (.int .i64) (.pair .bool (.pair (.int .i64) (.pair .str (.pair .str (.pair (.int .i64) (.pair (.int .i64) .unit)))))))) (.pair (.slice (.int .i64)) (.pair (.slice (.int .i64)) .unit))))).1).getD (Int.toNat t7) (Ty.dflt (.pair (.int .i64) (.pair .bool (.pair (.int .i64) (.pair .str (.pair .str (.pair (.int .i64) (.pair (.int .i64) .unit))))))))).2.2.2.2.1 == t2) then
      some t7
    else
      (bif (Option.isSome t0) then
      (bif inB t7 ((Option.getD t0 (Ty.dflt (.pair (.slice (.pair (.int .i64) (.pair .bool (.pair (.int .i64) (.pair .str (.pair .str (.pair (.int .i64) (.pair (.int .i64) .unit)))))))) (.pair (.slice (.int .i64)) (.pair (.slice (.int .i64)) .unit))))).1).length then
      rF16l0 t0 t2 (((Option.getD t0 (Ty.dflt (.pair (.slice (.pair (.int .i64) (.pair .bool (.pair (.int .i64) (.pair .str (.pair .str (.pair (.int .i64) (.pair (.int .i64) .unit)))))))) (.pair (.slice (.int .i64)) (.pair (.slice (.int .i64)) .unit))))).1).getD (Int.toNat t7) (Ty.dflt (.pair (.int .i64) (.pair .bool (.pair (.int .i64) (.pair .str (.pair .str (.pair (.int .i64) (.pair (.int .i64) .unit))))))))).2.2.2.2.2.2.1
      else none)
      else none))
    else none)
    else none)
  else
    some (-1))
def F16l0 (n : Nat) : Nat → Option (List (Int × (Bool × (Int × (List UInt8 × (List UInt8 × (Int × (Int × Unit))))))) × (List Int × (List Int × Unit))) → List UInt8 → Int → Option (Int)
  | 0, _, _, _ => none
  | m + 1, t0, t2, t7 => F16l0F n (F16l0 n m) t0 t2 t7

def F16 (n : Nat) (a0 : Option (List (Int × (Bool × (Int × (List UInt8 × (List UInt8 × (Int × (Int × Unit))))))) × (List Int × (List Int × Unit)))) (a1 : Int) (a2 : List UInt8) : Option (Int) :=
  (match F31 n a0 a1 with
  | some r1 =>
  (bif (!r1) then
    some (-1)
  else
    (bif (Option.isSome a0) then
    (bif inB a1 ((Option.getD a0 (Ty.dflt (.pair (.slice (.pair (.int .i64) (.pair .bool (.pair (.int .i64) (.pair .str (.pair .str (.pair (.int .i64) (.pair (.int .i64) .unit)))))))) (.pair (.slice (.int .i64)) (.pair (.slice (.int .i64)) .unit))))).1).length then
    (bif ((((Option.getD a0 (Ty.dflt (.pair (.slice (.pair (.int .i64) (.pair .bool (.pair (.int .i64) (.pair .str (.pair .str (.pair (.int .i64) (.pair (.int .i64) .unit)))))))) (.pair (.slice (.int .i64)) (.pair (.slice (.int .i64)) .unit))))).1).getD (Int.toNat a1) (Ty.dflt (.pair (.int .i64) (.pair .bool (.pair (.int .i64) (.pair .str (.pair .str (.pair (.int .i64) (.pair (.int .i64) .unit))))))))).1 != 6) then
      some (-1)
    else
      (bif (Option.isSome a0) then
      (bif inB a1 ((Option.getD a0 (Ty.dflt (.pair (.slice (.pair (.int .i64) (.pair .bool (.pair (.int .i64) (.pair .str (.pair .str (.pair (.int .i64) (.pair (.int .i64) .unit)))))))) (.pair (.slice (.int .i64)) (.pair (.slice (.int .i64)) .unit))))).1).length then
      F16l0 n n a0 a2 (((Option.getD a0 (Ty.dflt (.pair (.slice (.pair (.int .i64) (.pair .bool (.pair (.int .i64) (.pair .str (.pair .str (.pair (.int .i64) (.pair (.int .i64) .unit)))))))) (.pair (.slice (.int .i64)) (.pair (.slice (.int .i64)) .unit))))).1).getD (Int.toNat a1) (Ty.dflt (.pair (.int .i64) (.pair .bool (.pair (.int .i64) (.pair .str (.pair .str (.pair (.int .i64) (.pair (.int .i64) .unit))))))))).2.2.2.2.2.1
      else none)
      else none))
    else none)
    else none))
  | none => none)

noncomputable def c16 : Code := Try.f16.body.getD .skip

noncomputable def G16 (n : Nat) : Ctx (Res [.int .i64]) := ent 31 [.ref (.pair (.slice (.pair (.int .i64) (.pair .bool (.pair (.int .i64) (.pair .str (.pair .str (.pair (.int .i64) (.pair (.int .i64) .unit)))))))) (.pair (.slice (.int .i64)) (.pair (.slice (.int .i64)) .unit))), .int .i64] [.bool] (fun x => F31 n x.1 x.2) (noFns)

theorem GO16 (n : Nat) : CtxOK Try.prog lay0 (G16 n) := ent_ok (T31 n) (fun _ _ h => h) (noFns_ok)

noncomputable def P16 (n : Nat) : Pl (Res [.int .i64]) :=
  (.two .leaf (.two .leaf (.two (.two .leaf (.one (.loop [.val (.tmp 0) (.ref (.pair (.slice (.pair (.int .i64) (.pair .bool (.pair (.int .i64) (.pair .str (.pair .str (.pair (.int .i64) (.pair (.int .i64) .unit)))))))) (.pair (.slice (.int .i64)) (.pair (.slice (.int .i64)) .unit)))), .val (.tmp 2) .str, .val (.tmp 7) (.int .i64)] n (fun m x => F16l0 n m x.1 x.2.1 x.2.2.1) (fun _ => .leaf)))) .leaf)))

theorem K16 (n : Nat) : PlOK (G16 n) noInl lay0 52 (P16 n) c16 (fnK lay0 [.tmp 6] [.val (.ref (.pair (.slice (.pair (.int .i64) (.pair .bool (.pair (.int .i64) (.pair .str (.pair .str (.pair (.int .i64) (.pair (.int .i64) .unit)))))))) (.pair (.slice (.int .i64)) (.pair (.slice (.int .i64)) .unit)))), .val (.int .i64), .val .str] [.val (.int .i64)] [.int .i64]) :=
  ⟨trivial, ⟨trivial, ⟨⟨trivial, ⟨by kernel_rfl, fun x => by kernel_rfl, fun m => ⟨fun x => by kernel_rfl, trivial⟩⟩⟩, trivial⟩⟩⟩

theorem E16 (n : Nat) (a0 : Option (List (Int × (Bool × (Int × (List UInt8 × (List UInt8 × (Int × (Int × Unit))))))) × (List Int × (List Int × Unit)))) (a1 : Int) (a2 : List UInt8) : F16 n a0 a1 a2 = fnE [.val (.ref (.pair (.slice (.pair (.int .i64) (.pair .bool (.pair (.int .i64) (.pair .str (.pair .str (.pair (.int .i64) (.pair (.int .i64) .unit)))))))) (.pair (.slice (.int .i64)) (.pair (.slice (.int .i64)) .unit)))), .val (.int .i64), .val .str] (argDs [.ref (.pair (.slice (.pair (.int .i64) (.pair .bool (.pair (.int .i64) (.pair .str (.pair .str (.pair (.int .i64) (.pair (.int .i64) .unit)))))))) (.pair (.slice (.int .i64)) (.pair (.slice (.int .i64)) .unit))), .int .i64, .str] (a0, a1, a2)) (fun st => ev (G16 n) noInl lay0 52 c16 (P16 n) st (fnK lay0 [.tmp 6] [.val (.ref (.pair (.slice (.pair (.int .i64) (.pair .bool (.pair (.int .i64) (.pair .str (.pair .str (.pair (.int .i64) (.pair (.int .i64) .unit)))))))) (.pair (.slice (.int .i64)) (.pair (.slice (.int .i64)) .unit)))), .val (.int .i64), .val .str] [.val (.int .i64)] [.int .i64])) := by kernel_rfl

theorem T16 (n : Nat) : Told Try.prog 16 [.ref (.pair (.slice (.pair (.int .i64) (.pair .bool (.pair (.int .i64) (.pair .str (.pair .str (.pair (.int .i64) (.pair (.int .i64) .unit)))))))) (.pair (.slice (.int .i64)) (.pair (.slice (.int .i64)) .unit))), .int .i64, .str] [.int .i64] (fun x => F16 n x.1 x.2.1 x.2.2) := by
  rintro ⟨a0, a1, a2⟩ r h
  exact calls_plain (fn_sound lay0_ok mixed (rvs := [.tmp 6]) (by kernel_rfl : Try.prog.funcs[16]? = some Try.f16) (by kernel_rfl : Try.f16.body = some c16) (by kernel_rfl) (by kernel_rfl) (by kernel_rfl) (GO16 n) noInl_ok (K16 n) ((E16 n a0 a1 a2).symm.trans h)) rfl rfl rfl rfl

/-! ### (*orthoepy/orthoepyref18.Arena).Node -/

def F17 (n : Nat) (a0 : Option (List (Int × (Bool × (Int × (List UInt8 × (List UInt8 × (Int × (Int × Unit))))))) × (List Int × (List Int × Unit)))) (a1 : Int) : Option ((Int × (Bool × (Int × (List UInt8 × (List UInt8 × (Int × (Int × Unit))))))) × Bool) :=
  (match F31 n a0 a1 with
  | some r1 =>
  (bif (!r1) then
    some ((0, (false, (0, (([] : List UInt8), (([] : List UInt8), (0, (0, ()))))))), false)
  else
    (bif (Option.isSome a0) then
    (bif inB a1 ((Option.getD a0 (Ty.dflt (.pair (.slice (.pair (.int .i64) (.pair .bool (.pair (.int .i64) (.pair .str (.pair .str (.pair (.int .i64) (.pair (.int .i64) .unit)))))))) (.pair (.slice (.int .i64)) (.pair (.slice (.int .i64)) .unit))))).1).length then
    some ((((Option.getD a0 (Ty.dflt (.pair (.slice (.pair (.int .i64) (.pair .bool (.pair (.int .i64) (.pair .str (.pair .str (.pair (.int .i64) (.pair (.int .i64) .unit)))))))) (.pair (.slice (.int .i64)) (.pair (.slice (.int .i64)) .unit))))).1).getD (Int.toNat a1) (Ty.dflt (.pair (.int .i64) (.pair .bool (.pair (.int .i64) (.pair .str (.pair .str (.pair (.int .i64) (.pair (.int .i64) .unit))))))))), true)
    else none)
    else none))
  | none => none)

noncomputable def c17 : Code := Try.f17.body.getD .skip

noncomputable def G17 (n : Nat) : Ctx (Res [.pair (.int .i64) (.pair .bool (.pair (.int .i64) (.pair .str (.pair .str (.pair (.int .i64) (.pair (.int .i64) .unit)))))), .bool]) := ent 31 [.ref (.pair (.slice (.pair (.int .i64) (.pair .bool (.pair (.int .i64) (.pair .str (.pair .str (.pair (.int .i64) (.pair (.int .i64) .unit)))))))) (.pair (.slice (.int .i64)) (.pair (.slice (.int .i64)) .unit))), .int .i64] [.bool] (fun x => F31 n x.1 x.2) (noFns)

theorem GO17 (n : Nat) : CtxOK Try.prog lay0 (G17 n) := ent_ok (T31 n) (fun _ _ h => h) (noFns_ok)

noncomputable def P17 (n : Nat) : Pl (Res [.pair (.int .i64) (.pair .bool (.pair (.int .i64) (.pair .str (.pair .str (.pair (.int .i64) (.pair (.int .i64) .unit)))))), .bool]) :=
  .leaf

theorem K17 (n : Nat) : PlOK (G17 n) noInl lay0 18 (P17 n) c17 (fnK lay0 [.cell 4 35, .tmp 5] [.val (.ref (.pair (.slice (.pair (.int .i64) (.pair .bool (.pair (.int .i64) (.pair .str (.pair .str (.pair (.int .i64) (.pair (.int .i64) .unit)))))))) (.pair (.slice (.int .i64)) (.pair (.slice (.int .i64)) .unit)))), .val (.int .i64)] [.val (.pair (.int .i64) (.pair .bool (.pair (.int .i64) (.pair .str (.pair .str (.pair (.int .i64) (.pair (.int .i64) .unit))))))), .val .bool] [.pair (.int .i64) (.pair .bool (.pair (.int .i64) (.pair .str (.pair .str (.pair (.int .i64) (.pair (.int .i64) .unit)))))), .bool]) :=
  trivial

theorem E17 (n : Nat) (a0 : Option (List (Int × (Bool × (Int × (List UInt8 × (List UInt8 × (Int × (Int × Unit))))))) × (List Int × (List Int × Unit)))) (a1 : Int) : F17 n a0 a1 = fnE [.val (.ref (.pair (.slice (.pair (.int .i64) (.pair .bool (.pair (.int .i64) (.pair .str (.pair .str (.pair (.int .i64) (.pair (.int .i64) .unit)))))))) (.pair (.slice (.int .i64)) (.pair (.slice (.int .i64)) .unit)))), .val (.int .i64)] (argDs [.ref (.pair (.slice (.pair (.int .i64) (.pair .bool (.pair (.int .i64) (.pair .str (.pair .str (.pair (.int .i64) (.pair (.int .i64) .unit)))))))) (.pair (.slice (.int .i64)) (.pair (.slice (.int .i64)) .unit))), .int .i64] (a0, a1)) (fun st => ev (G17 n) noInl lay0 18 c17 (P17 n) st (fnK lay0 [.cell 4 35, .tmp 5] [.val (.ref (.pair (.slice (.pair (.int .i64) (.pair .bool (.pair (.int .i64) (.pair .str (.pair .str (.pair (.int .i64) (.pair (.int .i64) .unit)))))))) (.pair (.slice (.int .i64)) (.pair (.slice (.int .i64)) .unit)))), .val (.int .i64)] [.val (.pair (.int .i64) (.pair .bool (.pair (.int .i64) (.pair .str (.pair .str (.pair (.int .i64) (.pair (.int .i64) .unit))))))), .val .bool] [.pair (.int .i64) (.pair .bool (.pair (.int .i64) (.pair .str (.pair .str (.pair (.int .i64) (.pair (.int .i64) .unit)))))), .bool])) := by kernel_rfl

theorem T17 (n : Nat) : Told Try.prog 17 [.ref (.pair (.slice (.pair (.int .i64) (.pair .bool (.pair (.int .i64) (.pair .str (.pair .str (.pair (.int .i64) (.pair (.int .i64) .unit)))))))) (.pair (.slice (.int .i64)) (.pair (.slice (.int .i64)) .unit))), .int .i64] [.pair (.int .i64) (.pair .bool (.pair (.int .i64) (.pair .str (.pair .str (.pair (.int .i64) (.pair (.int .i64) .unit)))))), .bool] (fun x => F17 n x.1 x.2) := by
  rintro ⟨a0, a1⟩ r h
  exact calls_plain (fn_sound lay0_ok mixed (rvs := [.cell 4 35, .tmp 5]) (by kernel_rfl : Try.prog.funcs[17]? = some Try.f17) (by kernel_rfl : Try.f17.body = some c17) (by kernel_rfl) (by kernel_rfl) (by kernel_rfl) (GO17 n) noInl_ok (K17 n) ((E17 n a0 a1).symm.trans h)) rfl rfl rfl rfl

/-! ### (*orthoepy/orthoepyref18.Arena).Parent -/

def F18 (n : Nat) (a0 : Option (List (Int × (Bool × (Int × (List UInt8 × (List UInt8 × (Int × (Int × Unit))))))) × (List Int × (List Int × Unit)))) (a1 : Int) : Option (Int) :=
  (match F31 n a0 a1 with
  | some r1 =>
  (bif (!r1) then
    some (-1)
  else
    (bif (Option.isSome a0) then
    (bif inB a1 ((Option.getD a0 (Ty.dflt (.pair (.slice (.pair (.int .i64) (.pair .bool (.pair (.int .i64) (.pair .str (.pair .str (.pair (.int .i64) (.pair (.int .i64) .unit)))))))) (.pair (.slice (.int .i64)) (.pair (.slice (.int .i64)) .unit))))).2.1).length then
    some (((Option.getD a0 (Ty.dflt (.pair (.slice (.pair (.int .i64) (.pair .bool (.pair (.int .i64) (.pair .str (.pair .str (.pair (.int .i64) (.pair (.int .i64) .unit)))))))) (.pair (.slice (.int .i64)) (.pair (.slice (.int .i64)) .unit))))).2.1).getD (Int.toNat a1) (Ty.dflt (.int .i64)))
    else none)
    else none))
  | none => none)

noncomputable def c18 : Code := Try.f18.body.getD .skip

noncomputable def G18 (n : Nat) : Ctx (Res [.int .i64]) := ent 31 [.ref (.pair (.slice (.pair (.int .i64) (.pair .bool (.pair (.int .i64) (.pair .str (.pair .str (.pair (.int .i64) (.pair (.int .i64) .unit)))))))) (.pair (.slice (.int .i64)) (.pair (.slice (.int .i64)) .unit))), .int .i64] [.bool] (fun x => F31 n x.1 x.2) (noFns)

theorem GO18 (n : Nat) : CtxOK Try.prog lay0 (G18 n) := ent_ok (T31 n) (fun _ _ h => h) (noFns_ok)

noncomputable def P18 (n : Nat) : Pl (Res [.int .i64]) :=
  .leaf

theorem K18 (n : Nat) : PlOK (G18 n) noInl lay0 16 (P18 n) c18 (fnK lay0 [.tmp 4] [.val (.ref (.pair (.slice (.pair (.int .i64) (.pair .bool (.pair (.int .i64) (.pair .str (.pair .str (.pair (.int .i64) (.pair (.int .i64) .unit)))))))) (.pair (.slice (.int .i64)) (.pair (.slice (.int .i64)) .unit)))), .val (.int .i64)] [.val (.int .i64)] [.int .i64]) :=
  trivial

theorem E18 (n : Nat) (a0 : Option (List (Int × (Bool × (Int × (List UInt8 × (List UInt8 × (Int × (Int × Unit))))))) × (List Int × (List Int × Unit)))) (a1 : Int) : F18 n a0 a1 = fnE [.val (.ref (.pair (.slice (.pair (.int .i64) (.pair .bool (.pair (.int .i64) (.pair .str (.pair .str (.pair (.int .i64) (.pair (.int .i64) .unit)))))))) (.pair (.slice (.int .i64)) (.pair (.slice (.int .i64)) .unit)))), .val (.int .i64)] (argDs [.ref (.pair (.slice (.pair (.int .i64) (.pair .bool (.pair (.int .i64) (.pair .str (.pair .str (.pair (.int .i64) (.pair (.int .i64) .unit)))))))) (.pair (.slice (.int .i64)) (.pair (.slice (.int .i64)) .unit))), .int .i64] (a0, a1)) (fun st => ev (G18 n) noInl lay0 16 c18 (P18 n) st (fnK lay0 [.tmp 4] [.val (.ref (.pair (.slice (.pair (.int .i64) (.pair .bool (.pair (.int .i64) (.pair .str (.pair .str (.pair (.int .i64) (.pair (.int .i64) .unit)))))))) (.pair (.slice (.int .i64)) (.pair (.slice (.int .i64)) .unit)))), .val (.int .i64)] [.val (.int .i64)] [.int .i64])) := by kernel_rfl

theorem T18 (n : Nat) : Told Try.prog 18 [.ref (.pair (.slice (.pair (.int .i64) (.pair .bool (.pair (.int .i64) (.pair .str (.pair .str (.pair (.int .i64) (.pair (.int .i64) .unit)))))))) (.pair (.slice (.int .i64)) (.pair (.slice (.int .i64)) .unit))), .int .i64] [.int .i64] (fun x => F18 n x.1 x.2) := by
  rintro ⟨a0, a1⟩ r h
  exact calls_plain (fn_sound lay0_ok mixed (rvs := [.tmp 4]) (by kernel_rfl : Try.prog.funcs[18]? = some Try.f18) (by kernel_rfl : Try.f18.body = some c18) (by kernel_rfl) (by kernel_rfl) (by kernel_rfl) (GO18 n) noInl_ok (K18 n) ((E18 n a0 a1).symm.trans h)) rfl rfl rfl rfl

/-! ### (*orthoepy/orthoepyref18.Arena).Depth -/

def F27l0F (n : Nat) (rF27l0 : Option (List (Int × (Bool × (Int × (List UInt8 × (List UInt8 × (Int × (Int × Unit))))))) × (List Int × (List Int × Unit))) → Int → Int → Option (Int)) (t0 : Option (List (Int × (Bool × (Int × (List UInt8 × (List UInt8 × (Int × (Int × Unit))))))) × (List Int × (List Int × Unit)))) (t1 : Int) (t5 : Int) : Option (Int) :=
  (match F31 n t0 t1 with
  | some r1 =>
  (bif r1 then
    (bif (Option.isSome t0) then
    (bif inB t1 ((Option.getD t0 (Ty.dflt (.pair (.slice (.pair (.int .i64) (.pair .bool (.pair (.int .i64) (.pair .str (.pair .str (.pair (.int .i64) (.pair (.int .i64) .unit)))))))) (.pair (.slice (.int .i64)) (.pair (.slice (.int .i64)) .unit))))).1).length then
    (bif (decide ((((Option.getD t0 (Ty.dflt (.pair (.slice (.pair (.int .i64) (.pair .bool (.pair (.int .i64) (.pair .str (.pair .str (.pair (.int .i64) (.pair (.int .i64) .unit)))))))) (.pair (.slice (.int .i64)) (.pair (.slice (.int .i64)) .unit))))).1).getD (Int.toNat t1) (Ty.dflt (.pair (.int .i64) (.pair .bool (.pair (.int .i64) (.pair .str (.pair .str (.pair (.int .i64) (.pair (.int .i64) .unit))))))))).1 ≥ 5)) then
      (bif (Option.isSome t0) then
      (bif inB t1 ((Option.getD t0 (Ty.dflt (.pair (.slice (.pair (.int .i64) (.pair .bool (.pair (.int .i64) (.pair .str (.pair .str (.pair (.int .i64) (.pair (.int .i64) .unit)))))))) (.pair (.slice (.int .i64)) (.pair (.slice (.int .i64)) .unit))))).2.1).length then
      rF27l0 t0 (((Option.getD t0 (Ty.dflt (.pair (.slice (.pair (.int .i64) (.pair .bool (.pair (.int .i64) (.pair .str (.pair .str (.pair (.int .i64) (.pair (.int .i64) .unit)))))))) (.pair (.slice (.int .i64)) (.pair (.slice (.int .i64)) .unit))))).2.1).getD (Int.toNat t1) (Ty.dflt (.int .i64))) (IntKind.wrap .i64 (t5 + 1))
      else none)
      else none)
    else
      (bif (Option.isSome t0) then
      (bif inB t1 ((Option.getD t0 (Ty.dflt (.pair (.slice (.pair (.int .i64) (.pair .bool (.pair (.int .i64) (.pair .str (.pair .str (.pair (.int .i64) (.pair (.int .i64) .unit)))))))) (.pair (.slice (.int .i64)) (.pair (.slice (.int .i64)) .unit))))).2.1).length then
      rF27l0 t0 (((Option.getD t0 (Ty.dflt (.pair (.slice (.pair (.int .i64) (.pair .bool (.pair (.int .i64) (.pair .str (.pair .str (.pair (.int .i64) (.pair (.int .i64) .unit)))))))) (.pair (.slice (.int .i64)) (.pair (.slice (.int .i64)) .unit))))).2.1).getD (Int.toNat t1) (Ty.dflt (.int .i64))) t5
      else none)
      else none))
    else none)
    else none)
  else
    some t5)
  | none => none)
def F27l0 (n : Nat) : Nat → Option (List (Int × (Bool × (Int × (List UInt8 × (List UInt8 × (Int × (Int × Unit))))))) × (List Int × (List Int × Unit))) → Int → Int → Option (Int)
  | 0, _, _, _ => none
  | m + 1, t0, t1, t5 => F27l0F n (F27l0 n m) t0 t1 t5

def F27 (n : Nat) (a0 : Option (List (Int × (Bool × (Int × (List UInt8 × (List UInt8 × (Int × (Int × Unit))))))) × (List Int × (List Int × Unit)))) (a1 : Int) : Option (Int) :=
  F27l0 n n a0 a1 0

noncomputable def c27 : Code := Try.f27.body.getD .skip

noncomputable def G27 (n : Nat) : Ctx (Res [.int .i64]) := ent 31 [.ref (.pair (.slice (.pair (.int .i64) (.pair .bool (.pair (.int .i64) (.pair .str (.pair .str (.pair (.int .i64) (.pair (.int .i64) .unit)))))))) (.pair (.slice (.int .i64)) (.pair (.slice (.int .i64)) .unit))), .int .i64] [.bool] (fun x => F31 n x.1 x.2) (noFns)

theorem GO27 (n : Nat) : CtxOK Try.prog lay0 (G27 n) := ent_ok (T31 n) (fun _ _ h => h) (noFns_ok)

noncomputable def P27 (n : Nat) : Pl (Res [.int .i64]) :=
  (.two .leaf (.two .leaf (.two (.one (.loop [.val (.tmp 0) (.ref (.pair (.slice (.pair (.int .i64) (.pair .bool (.pair (.int .i64) (.pair .str (.pair .str (.pair (.int .i64) (.pair (.int .i64) .unit)))))))) (.pair (.slice (.int .i64)) (.pair (.slice (.int .i64)) .unit)))), .val (.tmp 1) (.int .i64), .val (.tmp 5) (.int .i64)] n (fun m x => F27l0 n m x.1 x.2.1 x.2.2.1) (fun _ => .leaf))) .leaf)))

theorem K27 (n : Nat) : PlOK (G27 n) noInl lay0 28 (P27 n) c27 (fnK lay0 [.tmp 4] [.val (.ref (.pair (.slice (.pair (.int .i64) (.pair .bool (.pair (.int .i64) (.pair .str (.pair .str (.pair (.int .i64) (.pair (.int .i64) .unit)))))))) (.pair (.slice (.int .i64)) (.pair (.slice (.int .i64)) .unit)))), .val (.int .i64)] [.val (.int .i64)] [.int .i64]) :=
  ⟨trivial, ⟨trivial, ⟨⟨by kernel_rfl, fun x => by kernel_rfl, fun m => ⟨fun x => by kernel_rfl, trivial⟩⟩, trivial⟩⟩⟩

theorem E27 (n : Nat) (a0 : Option (List (Int × (Bool × (Int × (List UInt8 × (List UInt8 × (Int × (Int × Unit))))))) × (List Int × (List Int × Unit)))) (a1 : Int) : F27 n a0 a1 = fnE [.val (.ref (.pair (.slice (.pair (.int .i64) (.pair .bool (.pair (.int .i64) (.pair .str (.pair .str (.pair (.int .i64) (.pair (.int .i64) .unit)))))))) (.pair (.slice (.int .i64)) (.pair (.slice (.int .i64)) .unit)))), .val (.int .i64)] (argDs [.ref (.pair (.slice (.pair (.int .i64) (.pair .bool (.pair (.int .i64) (.pair .str (.pair .str (.pair (.int .i64) (.pair (.int .i64) .unit)))))))) (.pair (.slice (.int .i64)) (.pair (.slice (.int .i64)) .unit))), .int .i64] (a0, a1)) (fun st => ev (G27 n) noInl lay0 28 c27 (P27 n) st (fnK lay0 [.tmp 4] [.val (.ref (.pair (.slice (.pair (.int .i64) (.pair .bool (.pair (.int .i64) (.pair .str (.pair .str (.pair (.int .i64) (.pair (.int .i64) .unit)))))))) (.pair (.slice (.int .i64)) (.pair (.slice (.int .i64)) .unit)))), .val (.int .i64)] [.val (.int .i64)] [.int .i64])) := by kernel_rfl

theorem T27 (n : Nat) : Told Try.prog 27 [.ref (.pair (.slice (.pair (.int .i64) (.pair .bool (.pair (.int .i64) (.pair .str (.pair .str (.pair (.int .i64) (.pair (.int .i64) .unit)))))))) (.pair (.slice (.int .i64)) (.pair (.slice (.int .i64)) .unit))), .int .i64] [.int .i64] (fun x => F27 n x.1 x.2) := by
  rintro ⟨a0, a1⟩ r h
  exact calls_plain (fn_sound lay0_ok mixed (rvs := [.tmp 4]) (by kernel_rfl : Try.prog.funcs[27]? = some Try.f27) (by kernel_rfl : Try.f27.body = some c27) (by kernel_rfl) (by kernel_rfl) (by kernel_rfl) (GO27 n) noInl_ok (K27 n) ((E27 n a0 a1).symm.trans h)) rfl rfl rfl rfl

/-! ### (*orthoepy/orthoepyref18.Arena).Size -/

def F28l0F (self : Option (List (Int × (Bool × (Int × (List UInt8 × (List UInt8 × (Int × (Int × Unit))))))) × (List Int × (List Int × Unit))) → Int → Option (Int)) (n : Nat) (rF28l0 : Option (List (Int × (Bool × (Int × (List UInt8 × (List UInt8 × (Int × (Int × Unit))))))) × (List Int × (List Int × Unit))) → Int → Int → Option (Int)) (t0 : Option (List (Int × (Bool × (Int × (List UInt8 × (List UInt8 × (Int × (Int × Unit))))))) × (List Int × (List Int × Unit)))) (t5 : Int) (t6 : Int) : Option (Int) :=
  (bif (decide (t6 ≥ 0)) then
    (match self t0 t6 with
    | some r2 =>
    (bif (Option.isSome t0) then
    (bif inB t6 ((Option.getD t0 (Ty.dflt (.pair (.slice (.pair (.int .i64) (.pair .bool (.pair (.int .i64) (.pair .str (.pair .str (.pair (.int .i64) (.pair (.int .i64) .unit)))))))) (.pair (.slice (.int .i64)) (.pair (.slice (.int .i64)) .unit))))).1).length then
    rF28l0 t0 (IntKind.wrap .i64 (t5 + r2)) (((Option.getD t0 (Ty.dflt (.pair (.slice (.pair (.int .i64) (.pair .bool (.pair (.int .i64) (.pair .str (.pair .str (.pair (.int .i64) (.pair (.int .i64) .unit)))))))) (.pair (.slice (.int .i64)) (.pair (.slice (.int .i64)) .unit))))).1).getD (Int.toNat t6) (Ty.dflt (.pair (.int .i64) (.pair .bool (.pair (.int .i64) (.pair .str (.pair .str (.pair (.int .i64) (.pair (.int .i64) .unit))))))))).2.2.2.2.2.2.1
    else none)
    else none)
    | none => none)
  else
    some t5)
def F28l0 (self : Option (List (Int × (Bool × (Int × (List UInt8 × (List UInt8 × (Int × (Int × Unit))))))) × (List Int × (List Int × Unit))) → Int → Option (Int)) (n : Nat) : Nat → Option (List (Int × (Bool × (Int × (List UInt8 × (List UInt8 × (Int × (Int × Unit))))))) × (List Int × (List Int × Unit))) → Int → Int → Option (Int)
  | 0, _, _, _ => none
  | m + 1, t0, t5, t6 => F28l0F self n (F28l0 self n m) t0 t5 t6

def F28B (self : Option (List (Int × (Bool × (Int × (List UInt8 × (List UInt8 × (Int × (Int × Unit))))))) × (List Int × (List Int × Unit))) → Int → Option (Int)) (n : Nat) (a0 : Option (List (Int × (Bool × (Int × (List UInt8 × (List UInt8 × (Int × (Int × Unit))))))) × (List Int × (List Int × Unit)))) (a1 : Int) : Option (Int) :=
  (match F31 n a0 a1 with
  | some r1 =>
  (bif (!r1) then
    some 0
  else
    (bif (Option.isSome a0) then
    (bif inB a1 ((Option.getD a0 (Ty.dflt (.pair (.slice (.pair (.int .i64) (.pair .bool (.pair (.int .i64) (.pair .str (.pair .str (.pair (.int .i64) (.pair (.int .i64) .unit)))))))) (.pair (.slice (.int .i64)) (.pair (.slice (.int .i64)) .unit))))).1).length then
    F28l0 self n n a0 1 (((Option.getD a0 (Ty.dflt (.pair (.slice (.pair (.int .i64) (.pair .bool (.pair (.int .i64) (.pair .str (.pair .str (.pair (.int .i64) (.pair (.int .i64) .unit)))))))) (.pair (.slice (.int .i64)) (.pair (.slice (.int .i64)) .unit))))).1).getD (Int.toNat a1) (Ty.dflt (.pair (.int .i64) (.pair .bool (.pair (.int .i64) (.pair .str (.pair .str (.pair (.int .i64) (.pair (.int .i64) .unit))))))))).2.2.2.2.2.1
    else none)
    else none))
  | none => none)

def F28 : Nat → Option (List (Int × (Bool × (Int × (List UInt8 × (List UInt8 × (Int × (Int × Unit))))))) × (List Int × (List Int × Unit))) → Int → Option (Int)
  | 0, _, _ => none
  | n + 1, a0, a1 => F28B (F28 n) n a0 a1

noncomputable def c28 : Code := Try.f28.body.getD .skip

noncomputable def G28 (self : Option (List (Int × (Bool × (Int × (List UInt8 × (List UInt8 × (Int × (Int × Unit))))))) × (List Int × (List Int × Unit))) → Int → Option (Int)) (n : Nat) : Ctx (Res [.int .i64]) := ent 28 [.ref (.pair (.slice (.pair (.int .i64) (.pair .bool (.pair (.int .i64) (.pair .str (.pair .str (.pair (.int .i64) (.pair (.int .i64) .unit)))))))) (.pair (.slice (.int .i64)) (.pair (.slice (.int .i64)) .unit))), .int .i64] [.int .i64] (fun x => self x.1 x.2) (ent 31 [.ref (.pair (.slice (.pair (.int .i64) (.pair .bool (.pair (.int .i64) (.pair .str (.pair .str (.pair (.int .i64) (.pair (.int .i64) .unit)))))))) (.pair (.slice (.int .i64)) (.pair (.slice (.int .i64)) .unit))), .int .i64] [.bool] (fun x => F31 n x.1 x.2) (noFns))

theorem GO28 (self : Option (List (Int × (Bool × (Int × (List UInt8 × (List UInt8 × (Int × (Int × Unit))))))) × (List Int × (List Int × Unit))) → Int → Option (Int)) (hs : Told Try.prog 28 [.ref (.pair (.slice (.pair (.int .i64) (.pair .bool (.pair (.int .i64) (.pair .str (.pair .str (.pair (.int .i64) (.pair (.int .i64) .unit)))))))) (.pair (.slice (.int .i64)) (.pair (.slice (.int .i64)) .unit))), .int .i64] [.int .i64] (fun x => self x.1 x.2)) (n : Nat) : CtxOK Try.prog lay0 (G28 self n) := ent_ok hs (fun _ _ h => h) (ent_ok (T31 n) (fun _ _ h => h) (noFns_ok))

noncomputable def P28 (self : Option (List (Int × (Bool × (Int × (List UInt8 × (List UInt8 × (Int × (Int × Unit))))))) × (List Int × (List Int × Unit))) → Int → Option (Int)) (n : Nat) : Pl (Res [.int .i64]) :=
  (.two .leaf (.two .leaf (.two .leaf (.two (.two .leaf (.one (.loop [.val (.tmp 0) (.ref (.pair (.slice (.pair (.int .i64) (.pair .bool (.pair (.int .i64) (.pair .str (.pair .str (.pair (.int .i64) (.pair (.int .i64) .unit)))))))) (.pair (.slice (.int .i64)) (.pair (.slice (.int .i64)) .unit)))), .val (.tmp 5) (.int .i64), .val (.tmp 6) (.int .i64)] n (fun m x => F28l0 self n m x.1 x.2.1 x.2.2.1) (fun _ => .leaf)))) .leaf))))

theorem K28 (self : Option (List (Int × (Bool × (Int × (List UInt8 × (List UInt8 × (Int × (Int × Unit))))))) × (List Int × (List Int × Unit))) → Int → Option (Int)) (n : Nat) : PlOK (G28 self n) noInl lay0 35 (P28 self n) c28 (fnK lay0 [.tmp 4] [.val (.ref (.pair (.slice (.pair (.int .i64) (.pair .bool (.pair (.int .i64) (.pair .str (.pair .str (.pair (.int .i64) (.pair (.int .i64) .unit)))))))) (.pair (.slice (.int .i64)) (.pair (.slice (.int .i64)) .unit)))), .val (.int .i64)] [.val (.int .i64)] [.int .i64]) :=
  ⟨trivial, ⟨trivial, ⟨trivial, ⟨⟨trivial, ⟨by kernel_rfl, fun x => by kernel_rfl, fun m => ⟨fun x => by kernel_rfl, trivial⟩⟩⟩, trivial⟩⟩⟩⟩

theorem E28 (self : Option (List (Int × (Bool × (Int × (List UInt8 × (List UInt8 × (Int × (Int × Unit))))))) × (List Int × (List Int × Unit))) → Int → Option (Int)) (n : Nat) (a0 : Option (List (Int × (Bool × (Int × (List UInt8 × (List UInt8 × (Int × (Int × Unit))))))) × (List Int × (List Int × Unit)))) (a1 : Int) : F28B self n a0 a1 = fnE [.val (.ref (.pair (.slice (.pair (.int .i64) (.pair .bool (.pair (.int .i64) (.pair .str (.pair .str (.pair (.int .i64) (.pair (.int .i64) .unit)))))))) (.pair (.slice (.int .i64)) (.pair (.slice (.int .i64)) .unit)))), .val (.int .i64)] (argDs [.ref (.pair (.slice (.pair (.int .i64) (.pair .bool (.pair (.int .i64) (.pair .str (.pair .str (.pair (.int .i64) (.pair (.int .i64) .unit)))))))) (.pair (.slice (.int .i64)) (.pair (.slice (.int .i64)) .unit))), .int .i64] (a0, a1)) (fun st => ev (G28 self n) noInl lay0 35 c28 (P28 self n) st (fnK lay0 [.tmp 4] [.val (.ref (.pair (.slice (.pair (.int .i64) (.pair .bool (.pair (.int .i64) (.pair .str (.pair .str (.pair (.int .i64) (.pair (.int .i64) .unit)))))))) (.pair (.slice (.int .i64)) (.pair (.slice (.int .i64)) .unit)))), .val (.int .i64)] [.val (.int .i64)] [.int .i64])) := by kernel_rfl

theorem TB28 (self : Option (List (Int × (Bool × (Int × (List UInt8 × (List UInt8 × (Int × (Int × Unit))))))) × (List Int × (List Int × Unit))) → Int → Option (Int)) (hs : Told Try.prog 28 [.ref (.pair (.slice (.pair (.int .i64) (.pair .bool (.pair (.int .i64) (.pair .str (.pair .str (.pair (.int .i64) (.pair (.int .i64) .unit)))))))) (.pair (.slice (.int .i64)) (.pair (.slice (.int .i64)) .unit))), .int .i64] [.int .i64] (fun x => self x.1 x.2)) (n : Nat) : Told Try.prog 28 [.ref (.pair (.slice (.pair (.int .i64) (.pair .bool (.pair (.int .i64) (.pair .str (.pair .str (.pair (.int .i64) (.pair (.int .i64) .unit)))))))) (.pair (.slice (.int .i64)) (.pair (.slice (.int .i64)) .unit))), .int .i64] [.int .i64] (fun x => F28B self n x.1 x.2) := by
  rintro ⟨a0, a1⟩ r h
  exact calls_plain (fn_sound lay0_ok mixed (rvs := [.tmp 4]) (by kernel_rfl : Try.prog.funcs[28]? = some Try.f28) (by kernel_rfl : Try.f28.body = some c28) (by kernel_rfl) (by kernel_rfl) (by kernel_rfl) (GO28 self hs n) noInl_ok (K28 self n) ((E28 self n a0 a1).symm.trans h)) rfl rfl rfl rfl

theorem T28 : ∀ n : Nat, Told Try.prog 28 [.ref (.pair (.slice (.pair (.int .i64) (.pair .bool (.pair (.int .i64) (.pair .str (.pair .str (.pair (.int .i64) (.pair (.int .i64) .unit)))))))) (.pair (.slice (.int .i64)) (.pair (.slice (.int .i64)) .unit))), .int .i64] [.int .i64] (fun x => F28 n x.1 x.2)
  | 0 => fun _ _ h => by cases h
  | n + 1 => TB28 (F28 n) (T28 n) n

/-! ### (*orthoepy/orthoepyref18.Arena).Kids -/

def F29l0F (n : Nat) (rF29l0 : Option (List (Int × (Bool × (Int × (List UInt8 × (List UInt8 × (Int × (Int × Unit))))))) × (List Int × (List Int × Unit))) → List Int → Int → Option ((List Int))) (t0 : Option (List (Int × (Bool × (Int × (List UInt8 × (List UInt8 × (Int × (Int × Unit))))))) × (List Int × (List Int × Unit)))) (t5 : List Int) (t6 : Int) : Option ((List Int)) :=
  (bif (decide (t6 ≥ 0)) then
    (bif (decide (((t5).length + (([t6] : List Int)).length) * 8 ≤ maxRoom) && decide ((t5).length + (([t6] : List Int)).length ≤ maxRoom)) then
    (bif (Option.isSome t0) then
    (bif inB t6 ((Option.getD t0 (Ty.dflt (.pair (.slice (.pair (.int .i64) (.pair .bool (.pair (.int .i64) (.pair .str (.pair .str (.pair (.int .i64) (.pair (.int .i64) .unit)))))))) (.pair (.slice (.int .i64)) (.pair (.slice (.int .i64)) .unit))))).1).length then
    rF29l0 t0 (t5 ++ ([t6] : List Int)) (((Option.getD t0 (Ty.dflt (.pair (.slice (.pair (.int .i64) (.pair .bool (.pair (.int .i64) (.pair .str (.pair .str (.pair (.int .i64) (.pair (.int .i64) .unit)))))))) (.pair (.slice (.int .i64)) (.pair (.slice (.int .i64)) .unit))))).1).getD (Int.toNat t6) (Ty.dflt (.pair (.int .i64) (.pair .bool (.pair (.int .i64) (.pair .str (.pair .str (.pair (.int .i64) (.pair (.int .i64) .unit))))))))).2.2.2.2.2.2.1
    else none)
    else none)
    else none)
  else
    some t5)
def F29l0 (n : Nat) : Nat → Option (List (Int × (Bool × (Int × (List UInt8 × (List UInt8 × (Int × (Int × Unit))))))) × (List Int × (List Int × Unit))) → List Int → Int → Option ((List Int))
  | 0, _, _, _ => none
  | m + 1, t0, t5, t6 => F29l0F n (F29l0 n m) t0 t5 t6

def F29 (n : Nat) (a0 : Option (List (Int × (Bool × (Int × (List UInt8 × (List UInt8 × (Int × (Int × Unit))))))) × (List Int × (List Int × Unit)))) (a1 : Int) : Option ((List Int)) :=
  (match F31 n a0 a1 with
  | some r1 =>
  (bif (!r1) then
    some ([] : List Int)
  else
    (bif (Option.isSome a0) then
    (bif inB a1 ((Option.getD a0 (Ty.dflt (.pair (.slice (.pair (.int .i64) (.pair .bool (.pair (.int .i64) (.pair .str (.pair .str (.pair (.int .i64) (.pair (.int .i64) .unit)))))))) (.pair (.slice (.int .i64)) (.pair (.slice (.int .i64)) .unit))))).1).length then
    F29l0 n n a0 ([] : List Int) (((Option.getD a0 (Ty.dflt (.pair (.slice (.pair (.int .i64) (.pair .bool (.pair (.int .i64) (.pair .str (.pair .str (.pair (.int .i64) (.pair (.int .i64) .unit)))))))) (.pair (.slice (.int .i64)) (.pair (.slice (.int .i64)) .unit))))).1).getD (Int.toNat a1) (Ty.dflt (.pair (.int .i64) (.pair .bool (.pair (.int .i64) (.pair .str (.pair .str (.pair (.int .i64) (.pair (.int .i64) .unit))))))))).2.2.2.2.2.1
    else none)
    else none))
  | none => none)

noncomputable def c29 : Code := Try.f29.body.getD .skip

noncomputable def G29 (n : Nat) : Ctx (Res [.slice (.int .i64)]) := ent 31 [.ref (.pair (.slice (.pair (.int .i64) (.pair .bool (.pair (.int .i64) (.pair .str (.pair .str (.pair (.int .i64) (.pair (.int .i64) .unit)))))))) (.pair (.slice (.int .i64)) (.pair (.slice (.int .i64)) .unit))), .int .i64] [.bool] (fun x => F31 n x.1 x.2) (noFns)

theorem GO29 (n : Nat) : CtxOK Try.prog lay0 (G29 n) := ent_ok (T31 n) (fun _ _ h => h) (noFns_ok)

noncomputable def P29 (n : Nat) : Pl (Res [.slice (.int .i64)]) :=
  (.two .leaf (.two .leaf (.two .leaf (.two (.two .leaf (.one (.loop [.val (.tmp 0) (.ref (.pair (.slice (.pair (.int .i64) (.pair .bool (.pair (.int .i64) (.pair .str (.pair .str (.pair (.int .i64) (.pair (.int .i64) .unit)))))))) (.pair (.slice (.int .i64)) (.pair (.slice (.int .i64)) .unit)))), .vec (.tmp 5) 20000000 3 (.int .i64), .val (.tmp 6) (.int .i64)] n (fun m x => F29l0 n m x.1 x.2.1 x.2.2.1) (fun _ => .leaf)))) .leaf))))

theorem K29 (n : Nat) : PlOK (G29 n) noInl lay0 35 (P29 n) c29 (fnK lay0 [.tmp 4] [.val (.ref (.pair (.slice (.pair (.int .i64) (.pair .bool (.pair (.int .i64) (.pair .str (.pair .str (.pair (.int .i64) (.pair (.int .i64) .unit)))))))) (.pair (.slice (.int .i64)) (.pair (.slice (.int .i64)) .unit)))), .val (.int .i64)] [.val (.slice (.int .i64))] [.slice (.int .i64)]) :=
  ⟨trivial, ⟨trivial, ⟨trivial, ⟨⟨trivial, ⟨by kernel_rfl, fun x => by kernel_rfl, fun m => ⟨fun x => by kernel_rfl, trivial⟩⟩⟩, trivial⟩⟩⟩⟩

theorem E29 (n : Nat) (a0 : Option (List (Int × (Bool × (Int × (List UInt8 × (List UInt8 × (Int × (Int × Unit))))))) × (List Int × (List Int × Unit)))) (a1 : Int) : F29 n a0 a1 = fnE [.val (.ref (.pair (.slice (.pair (.int .i64) (.pair .bool (.pair (.int .i64) (.pair .str (.pair .str (.pair (.int .i64) (.pair (.int .i64) .unit)))))))) (.pair (.slice (.int .i64)) (.pair (.slice (.int .i64)) .unit)))), .val (.int .i64)] (argDs [.ref (.pair (.slice (.pair (.int .i64) (.pair .bool (.pair (.int .i64) (.pair .str (.pair .str (.pair (.int .i64) (.pair (.int .i64) .unit)))))))) (.pair (.slice (.int .i64)) (.pair (.slice (.int .i64)) .unit))), .int .i64] (a0, a1)) (fun st => ev (G29 n) noInl lay0 35 c29 (P29 n) st (fnK lay0 [.tmp 4] [.val (.ref (.pair (.slice (.pair (.int .i64) (.pair .bool (.pair (.int .i64) (.pair .str (.pair .str (.pair (.int .i64) (.pair (.int .i64) .unit)))))))) (.pair (.slice (.int .i64)) (.pair (.slice (.int .i64)) .unit)))), .val (.int .i64)] [.val (.slice (.int .i64))] [.slice (.int .i64)])) := by kernel_rfl

theorem T29 (n : Nat) : Told Try.prog 29 [.ref (.pair (.slice (.pair (.int .i64) (.pair .bool (.pair (.int .i64) (.pair .str (.pair .str (.pair (.int .i64) (.pair (.int .i64) .unit)))))))) (.pair (.slice (.int .i64)) (.pair (.slice (.int .i64)) .unit))), .int .i64] [.slice (.int .i64)] (fun x => F29 n x.1 x.2) := by
  rintro ⟨a0, a1⟩ r h
  exact calls_plain (fn_sound lay0_ok mixed (rvs := [.tmp 4]) (by kernel_rfl : Try.prog.funcs[29]? = some Try.f29) (by kernel_rfl : Try.f29.body = some c29) (by kernel_rfl) (by kernel_rfl) (by kernel_rfl) (GO29 n) noInl_ok (K29 n) ((E29 n a0 a1).symm.trans h)) rfl rfl rfl rfl

/-! ### orthoepy/arena.New -/

def F6 (n : Nat) : Option ((List ((Int × (Bool × (Int × (List UInt8 × (List UInt8 × (Int × (Int × Unit))))))) × (Int × (Int × Unit))) × Unit)) :=
  some (([] : List ((Int × (Bool × (Int × (List UInt8 × (List UInt8 × (Int × (Int × Unit))))))) × (Int × (Int × Unit)))), ())

noncomputable def c6 : Code := Try.f6.body.getD .skip

noncomputable def G6 (n : Nat) : Ctx (Res [.pair (.slice (.pair (.pair (.int .i64) (.pair .bool (.pair (.int .i64) (.pair .str (.pair .str (.pair (.int .i64) (.pair (.int .i64) .unit))))))) (.pair (.int .i64) (.pair (.int .i64) .unit)))) .unit]) := noFns

theorem GO6 (n : Nat) : CtxOK Try.prog lay0 (G6 n) := noFns_ok

noncomputable def P6 (n : Nat) : Pl (Res [.pair (.slice (.pair (.pair (.int .i64) (.pair .bool (.pair (.int .i64) (.pair .str (.pair .str (.pair (.int .i64) (.pair (.int .i64) .unit))))))) (.pair (.int .i64) (.pair (.int .i64) .unit)))) .unit]) :=
  .leaf

theorem K6 (n : Nat) : PlOK (G6 n) noInl lay0 3 (P6 n) c6 (fnK lay0 [.tmp 0] [] [.box (.pair (.vec 57 (.pair (.pair (.int .i64) (.pair .bool (.pair (.int .i64) (.pair .str (.pair .str (.pair (.int .i64) (.pair (.int .i64) .unit))))))) (.pair (.int .i64) (.pair (.int .i64) .unit)))) .unit)] [.pair (.slice (.pair (.pair (.int .i64) (.pair .bool (.pair (.int .i64) (.pair .str (.pair .str (.pair (.int .i64) (.pair (.int .i64) .unit))))))) (.pair (.int .i64) (.pair (.int .i64) .unit)))) .unit]) :=
  trivial

theorem E6 (n : Nat) : F6 n = fnE [] (argDs [] ()) (fun st => ev (G6 n) noInl lay0 3 c6 (P6 n) st (fnK lay0 [.tmp 0] [] [.box (.pair (.vec 57 (.pair (.pair (.int .i64) (.pair .bool (.pair (.int .i64) (.pair .str (.pair .str (.pair (.int .i64) (.pair (.int .i64) .unit))))))) (.pair (.int .i64) (.pair (.int .i64) .unit)))) .unit)] [.pair (.slice (.pair (.pair (.int .i64) (.pair .bool (.pair (.int .i64) (.pair .str (.pair .str (.pair (.int .i64) (.pair (.int .i64) .unit))))))) (.pair (.int .i64) (.pair (.int .i64) .unit)))) .unit])) := by kernel_rfl

theorem T6 (n : Nat) : ToldIo Try.prog 6 [] [.box (.pair (.vec 57 (.pair (.pair (.int .i64) (.pair .bool (.pair (.int .i64) (.pair .str (.pair .str (.pair (.int .i64) (.pair (.int .i64) .unit))))))) (.pair (.int .i64) (.pair (.int .i64) .unit)))) .unit)] [] [.pair (.slice (.pair (.pair (.int .i64) (.pair .bool (.pair (.int .i64) (.pair .str (.pair .str (.pair (.int .i64) (.pair (.int .i64) .unit))))))) (.pair (.int .i64) (.pair (.int .i64) .unit)))) .unit] (fun x => F6 n) := by
  rintro _ r h
  exact fn_sound lay0_ok mixed (rvs := [.tmp 0]) (by kernel_rfl : Try.prog.funcs[6]? = some Try.f6) (by kernel_rfl : Try.f6.body = some c6) (by kernel_rfl) (by kernel_rfl) (by kernel_rfl) (GO6 n) noInl_ok (K6 n) ((E6 n).symm.trans h)

/-! ### (*orthoepy/arena.Arena).Add -/

def F11 (n : Nat) (a0 : (List ((Int × (Bool × (Int × (List UInt8 × (List UInt8 × (Int × (Int × Unit))))))) × (Int × (Int × Unit))) × Unit)) (a1 : Int) (a2 : (Int × (Bool × (Int × (List UInt8 × (List UInt8 × (Int × (Int × Unit)))))))) : Option ((List ((Int × (Bool × (Int × (List UInt8 × (List UInt8 × (Int × (Int × Unit))))))) × (Int × (Int × Unit))) × Unit) × Int) :=
  (bif (decide (a1 < 0)) then
    (bif (decide (a2.1 < 1)) then
      some (a0, (-1))
    else
      (bif (decide (a2.1 > 6)) then
        some (a0, (-1))
      else
        (bif (a1 != (-1)) then
          some (a0, (-1))
        else
          (bif (decide (((a0.1).length : Int) > 0)) then
            some (a0, (-1))
          else
            (match F26 n a2 0 with
            | some r1 =>
            (bif (decide (((a0.1).length + (([(r1, (a1, ((-1), ())))] : List ((Int × (Bool × (Int × (List UInt8 × (List UInt8 × (Int × (Int × Unit))))))) × (Int × (Int × Unit))))).length) * 88 ≤ maxRoom) && decide ((a0.1).length + (([(r1, (a1, ((-1), ())))] : List ((Int × (Bool × (Int × (List UInt8 × (List UInt8 × (Int × (Int × Unit))))))) × (Int × (Int × Unit))))).length ≤ maxRoom)) then
            some (((a0.1 ++ ([(r1, (a1, ((-1), ())))] : List ((Int × (Bool × (Int × (List UInt8 × (List UInt8 × (Int × (Int × Unit))))))) × (Int × (Int × Unit))))), ()), ((a0.1).length : Int))
            else none)
            | none => none)))))
  else
    (bif (decide (a1 ≥ ((a0.1).length : Int))) then
      (bif (decide (a2.1 < 1)) then
        some (a0, (-1))
      else
        (bif (decide (a2.1 > 6)) then
          some (a0, (-1))
        else
          (bif (a1 != (-1)) then
            some (a0, (-1))
          else
            (bif (decide (((a0.1).length : Int) > 0)) then
              some (a0, (-1))
            else
              (match F26 n a2 0 with
              | some r2 =>
              (bif (decide (((a0.1).length + (([(r2, (a1, ((-1), ())))] : List ((Int × (Bool × (Int × (List UInt8 × (List UInt8 × (Int × (Int × Unit))))))) × (Int × (Int × Unit))))).length) * 88 ≤ maxRoom) && decide ((a0.1).length + (([(r2, (a1, ((-1), ())))] : List ((Int × (Bool × (Int × (List UInt8 × (List UInt8 × (Int × (Int × Unit))))))) × (Int × (Int × Unit))))).length ≤ maxRoom)) then
              some (((a0.1 ++ ([(r2, (a1, ((-1), ())))] : List ((Int × (Bool × (Int × (List UInt8 × (List UInt8 × (Int × (Int × Unit))))))) × (Int × (Int × Unit))))), ()), ((a0.1).length : Int))
              else none)
              | none => none)))))
    else
      (bif inB a1 (a0.1).length then
      (bif (decide (a2.1 < 1)) then
        some (a0, (-1))
      else
        (bif (decide (a2.1 > 6)) then
          some (a0, (-1))
        else
          (match F25 n ((a0.1).getD (Int.toNat a1) (Ty.dflt (.pair (.pair (.int .i64) (.pair .bool (.pair (.int .i64) (.pair .str (.pair .str (.pair (.int .i64) (.pair (.int .i64) .unit))))))) (.pair (.int .i64) (.pair (.int .i64) .unit))))).1.1 with
          | some r3 =>
          (bif (!r3) then
            some (a0, (-1))
          else
            (bif (((a0.1).getD (Int.toNat a1) (Ty.dflt (.pair (.pair (.int .i64) (.pair .bool (.pair (.int .i64) (.pair .str (.pair .str (.pair (.int .i64) (.pair (.int .i64) .unit))))))) (.pair (.int .i64) (.pair (.int .i64) .unit))))).2.2.1 == (-1)) then
              (match F26 n a2 ((a0.1).getD (Int.toNat a1) (Ty.dflt (.pair (.pair (.int .i64) (.pair .bool (.pair (.int .i64) (.pair .str (.pair .str (.pair (.int .i64) (.pair (.int .i64) .unit))))))) (.pair (.int .i64) (.pair (.int .i64) .unit))))).1.1 with
              | some r4 =>
              (bif (decide (((((((a0.1).set (Int.toNat a1) ((((a0.1).getD (Int.toNat a1) (Ty.dflt (.pair (.pair (.int .i64) (.pair .bool (.pair (.int .i64) (.pair .str (.pair .str (.pair (.int .i64) (.pair (.int .i64) .unit))))))) (.pair (.int .i64) (.pair (.int .i64) .unit))))).1.1, (((a0.1).getD (Int.toNat a1) (Ty.dflt (.pair (.pair (.int .i64) (.pair .bool (.pair (.int .i64) (.pair .str (.pair .str (.pair (.int .i64) (.pair (.int .i64) .unit))))))) (.pair (.int .i64) (.pair (.int .i64) .unit))))).1.2.1, (((a0.1).getD (Int.toNat a1) (Ty.dflt (.pair (.pair (.int .i64) (.pair .bool (.pair (.int .i64) (.pair .str (.pair .str (.pair (.int .i64) (.pair (.int .i64) .unit))))))) (.pair (.int .i64) (.pair (.int .i64) .unit))))).1.2.2.1, (((a0.1).getD (Int.toNat a1) (Ty.dflt (.pair (.pair (.int .i64) (.pair .bool (.pair (.int .i64) (.pair .str (.pair .str (.pair (.int .i64) (.pair (.int .i64) .unit))))))) (.pair (.int .i64) (.pair (.int .i64) .unit))))).1.2.2.2.1, (((a0.1).getD (Int.toNat a1) (Ty.dflt (.pair (.pair (.int .i64) (.pair .bool (.pair (.int .i64) (.pair .str (.pair .str (.pair (.int .i64) (.pair (.int .i64) .unit))))))) (.pair (.int .i64) (.pair (.int .i64) .unit))))).1.2.2.2.2.1, (((a0.1).length : Int), ((a0.1).getD (Int.toNat a1) (Ty.dflt (.pair (.pair (.int .i64) (.pair .bool (.pair (.int .i64) (.pair .str (.pair .str (.pair (.int .i64) (.pair (.int .i64) .unit))))))) (.pair (.int .i64) (.pair (.int .i64) .unit))))).1.2.2.2.2.2.2)))))), ((a0.1).getD (Int.toNat a1) (Ty.dflt (.pair (.pair (.int .i64) (.pair .bool (.pair (.int .i64) (.pair .str (.pair .str (.pair (.int .i64) (.pair (.int .i64) .unit))))))) (.pair (.int .i64) (.pair (.int .i64) .unit))))).2))).set (Int.toNat a1) (((((a0.1).set (Int.toNat a1) ((((a0.1).getD (Int.toNat a1) (Ty.dflt (.pair (.pair (.int .i64) (.pair .bool (.pair (.int .i64) (.pair .str (.pair .str (.pair (.int .i64) (.pair (.int .i64) .unit))))))) (.pair (.int .i64) (.pair (.int .i64) .unit))))).1.1, (((a0.1).getD (Int.toNat a1) (Ty.dflt (.pair (.pair (.int .i64) (.pair .bool (.pair (.int .i64) (.pair .str (.pair .str (.pair (.int .i64) (.pair (.int .i64) .unit))))))) (.pair (.int .i64) (.pair (.int .i64) .unit))))).1.2.1, (((a0.1).getD (Int.toNat a1) (Ty.dflt (.pair (.pair (.int .i64) (.pair .bool (.pair (.int .i64) (.pair .str (.pair .str (.pair (.int .i64) (.pair (.int .i64) .unit))))))) (.pair (.int .i64) (.pair (.int .i64) .unit))))).1.2.2.1, (((a0.1).getD (Int.toNat a1) (Ty.dflt (.pair (.pair (.int .i64) (.pair .bool (.pair (.int .i64) (.pair .str (.pair .str (.pair (.int .i64) (.pair (.int .i64) .unit))))))) (.pair (.int .i64) (.pair (.int .i64) .unit))))).1.2.2.2.1, (((a0.1).getD (Int.toNat a1) (Ty.dflt (.pair (.pair (.int .i64) (.pair .bool (.pair (.int .i64) (.pair .str (.pair .str (.pair (.int .i64) (.pair (.int .i64) .unit))))))) (.pair (.int .i64) (.pair (.int .i64) .unit))))).1.2.2.2.2.1, (((a0.1).length : Int), ((a0.1).getD (Int.toNat a1) (Ty.dflt (.pair (.pair (.int .i64) (.pair .bool (.pair (.int .i64) (.pair .str (.pair .str (.pair (.int .i64) (.pair (.int .i64) .unit))))))) (.pair (.int .i64) (.pair (.int .i64) .unit))))).1.2.2.2.2.2.2)))))), ((a0.1).getD (Int.toNat a1) (Ty.dflt (.pair (.pair (.int .i64) (.pair .bool (.pair (.int .i64) (.pair .str (.pair .str (.pair (.int .i64) (.pair (.int .i64) .unit))))))) (.pair (.int .i64) (.pair (.int .i64) .unit))))).2))).getD (Int.toNat a1) (Ty.dflt (.pair (.pair (.int .i64) (.pair .bool (.pair (.int .i64) (.pair .str (.pair .str (.pair (.int .i64) (.pair (.int .i64) .unit))))))) (.pair (.int .i64) (.pair (.int .i64) .unit))))).1, (((((a0.1).set (Int.toNat a1) ((((a0.1).getD (Int.toNat a1) (Ty.dflt (.pair (.pair (.int .i64) (.pair .bool (.pair (.int .i64) (.pair .str (.pair .str (.pair (.int .i64) (.pair (.int .i64) .unit))))))) (.pair (.int .i64) (.pair (.int .i64) .unit))))).1.1, (((a0.1).getD (Int.toNat a1) (Ty.dflt (.pair (.pair (.int .i64) (.pair .bool (.pair (.int .i64) (.pair .str (.pair .str (.pair (.int .i64) (.pair (.int .i64) .unit))))))) (.pair (.int .i64) (.pair (.int .i64) .unit))))).1.2.1, (((a0.1).getD (Int.toNat a1) (Ty.dflt (.pair (.pair (.int .i64) (.pair .bool (.pair (.int .i64) (.pair .str (.pair .str (.pair (.int .i64) (.pair (.int .i64) .unit))))))) (.pair (.int .i64) (.pair (.int .i64) .unit))))).1.2.2.1, (((a0.1).getD (Int.toNat a1) (Ty.dflt (.pair (.pair (.int .i64) (.pair .bool (.pair (.int .i64) (.pair .str (.pair .str (.pair (.int .i64) (.pair (.int .i64) .unit))))))) (.pair (.int .i64) (.pair (.int .i64) .unit))))).1.2.2.2.1, (((a0.1).getD (Int.toNat a1) (Ty.dflt (.pair (.pair (.int .i64) (.pair .bool (.pair (.int .i64) (.pair .str (.pair .str (.pair (.int .i64) (.pair (.int .i64) .unit))))))) (.pair (.int .i64) (.pair (.int .i64) .unit))))).1.2.2.2.2.1, (((a0.1).length : Int), ((a0.1).getD (Int.toNat a1) (Ty.dflt (.pair (.pair (.int .i64) (.pair .bool (.pair (.int .i64) (.pair .str (.pair .str (.pair (.int .i64) (.pair (.int .i64) .unit))))))) (.pair (.int .i64) (.pair (.int .i64) .unit))))).1.2.2.2.2.2.2)))))), ((a0.1).getD (Int.toNat a1) (Ty.dflt (.pair (.pair (.int .i64) (.pair .bool (.pair (.int .i64) (.pair .str (.pair .str (.pair (.int .i64) (.pair (.int .i64) .unit))))))) (.pair (.int .i64) (.pair (.int .i64) .unit))))).2))).getD (Int.toNat a1) (Ty.dflt (.pair (.pair (.int .i64) (.pair .bool (.pair (.int .i64) (.pair .str (.pair .str (.pair (.int .i64) (.pair (.int .i64) .unit))))))) (.pair (.int .i64) (.pair (.int .i64) .unit))))).2.1, (((a0.1).length : Int), ()))))).length + (([(r4, (a1, ((-1), ())))] : List ((Int × (Bool × (Int × (List UInt8 × (List UInt8 × (Int × (Int × Unit))))))) × (Int × (Int × Unit))))).length) * 88 ≤ maxRoom) && decide ((((((a0.1).set (Int.toNat a1) ((((a0.1).getD (Int.toNat a1) (Ty.dflt (.pair (.pair (.int .i64) (.pair .bool (.pair (.int .i64) (.pair .str (.pair .str (.pair (.int .i64) (.pair (.int .i64) .unit))))))) (.pair (.int .i64) (.pair (.int .i64) .unit))))).1.1, (((a0.1).getD (Int.toNat a1) (Ty.dflt (.pair (.pair (.int .i64) (.pair .bool (.pair (.int .i64) (.pair .str (.pair .str (.pair (.int .i64) (.pair (.int .i64) .unit))))))) (.pair (.int .i64) (.pair (.int .i64) .unit))))).1.2.1, (((a0.1).getD (Int.toNat a1) (Ty.dflt (.pair (.pair (.int .i64) (.pair .bool (.pair (.int .i64) (.pair .str (.pair .str (.pair (.int .i64) (.pair (.int .i64) .unit))))))) (.pair (.int .i64) (.pair (.int .i64) .unit))))).1.2.2.1, (((a0.1).getD (Int.toNat a1) (Ty.dflt (.pair (.pair (.int .i64) (.pair .bool (.pair (.int .i64) (.pair .str (.pair .str (.pair (.int .i64) (.pair (.int .i64) .unit))))))) (.pair (.int .i64) (.pair (.int .i64) .unit))))).1.2.2.2.1, (((a0.1).getD (Int.toNat a1) (Ty.dflt (.pair (.pair (.int .i64) (.pair .bool (.pair (.int .i64) (.pair .str (.pair .str (.pair (.int .i64) (.pair (.int .i64) .unit))))))) (.pair (.int .i64) (.pair (.int .i64) .unit))))).1.2.2.2.2.1, (((a0.1).length : Int), ((a0.1).getD (Int.toNat a1) (Ty.dflt (.pair (.pair (.int .i64) (.pair .bool (.pair (.int .i64) (.pair .str (.pair .str (.pair (.int .i64) (.pair (.int .i64) .unit))))))) (.pair (.int .i64) (.pair (.int .i64) .unit))))).1.2.2.2.2.2.2)))))), ((a0.1).getD (Int.toNat a1) (Ty.dflt (.pair (.pair (.int .i64) (.pair .bool (.pair (.int .i64) (.pair .str (.pair .str (.pair (.int .i64) (.pair (.int .i64) .unit))))))) (.pair (.int .i64) (.pair (.int .i64) .unit))))).2))).set (Int.toNat a1) (((((a0.1).set (Int.toNat a1) ((((a0.1).getD (Int.toNat a1) (Ty.dflt (.pair (.pair (.int .i64) (.pair .bool (.pair (.int .i64) (.pair .str (.pair .str (.pair (.int .i64) (.pair (.int .i64) .unit))))))) (.pair (.int .i64) (.pair (.int .i64) .unit))))).1.1, (((a0.1).getD (Int.toNat a1) (Ty.dflt (.pair (.pair (.int .i64) (.pair .bool (.pair (.int .i64) (.pair .str (.pair .str (.pair (.int .i64) (.pair (.int .i64) .unit))))))) (.pair (.int .i64) (.pair (.int .i64) .unit))))).1.2.1, (((a0.1).getD (Int.toNat a1) (Ty.dflt (.pair (.pair (.int .i64) (.pair .bool (.pair (.int .i64) (.pair .str (.pair .str (.pair (.int .i64) (.pair (.int .i64) .unit))))))) (.pair (.int .i64) (.pair (.int .i64) .unit))))).1.2.2.1, (((a0.1).getD (Int.toNat a1) (Ty.dflt (.pair (.pair (.int .i64) (.pair .bool (.pair (.int .i64) (.pair .str (.pair .str (.pair (.int .i64) (.pair (.int .i64) .unit))))))) (.pair (.int .i64) (.pair (.int .i64) .unit))))).1.2.2.2.1, (((a0.1).getD (Int.toNat a1) (Ty.dflt (.pair (.pair (.int .i64) (.pair .bool (.pair (.int .i64) (.pair .str (.pair .str (.pair (.int .i64) (.pair (.int .i64) .unit))))))) (.pair (.int .i64) (.pair (.int .i64) .unit))))).1.2.2.2.2.1, (((a0.1).length : Int), ((a0.1).getD (Int.toNat a1) (Ty.dflt (.pair (.pair (.int .i64) (.pair .bool (.pair (.int .i64) (.pair .str (.pair .str (.pair (.int .i64) (.pair (.int .i64) .unit))))))) (.pair (.int .i64) (.pair (.int .i64) .unit))))).1.2.2.2.2.2.2)))))), ((a0.1).getD (Int.toNat a1) (Ty.dflt (.pair (.pair (.int .i64) (.pair .bool (.pair (.int .i64) (.pair .str (.pair .str (.pair (.int .i64) (.pair (.int .i64) .unit))))))) (.pair (.int .i64) (.pair (.int .i64) .unit))))).2))).getD (Int.toNat a1) (Ty.dflt (.pair (.pair (.int .i64) (.pair .bool (.pair (.int .i64) (.pair .str (.pair .str (.pair (.int .i64) (.pair (.int .i64) .unit))))))) (.pair (.int .i64) (.pair (.int .i64) .unit))))).1, (((((a0.1).set (Int.toNat a1) ((((a0.1).getD (Int.toNat a1) (Ty.dflt (.pair (.pair (.int .i64) (.pair .bool (.pair (.int .i64) (.pair .str (.pair .str (.pair (.int .i64) (.pair (.int .i64) .unit))))))) (.pair (.int .i64) (.pair (.int .i64) .unit))))).1.1, (((a0.1).getD (Int.toNat a1) (Ty.dflt (.pair (.pair (.int .i64) (.pair .bool (.pair (.int .i64) (.pair .str (.pair .str (.pair (.int .i64) (.pair (.int .i64) .unit))))))) (.pair (.int .i64) (.pair (.int .i64) .unit))))).1.2.1, (((a0.1).getD (Int.toNat a1) (Ty.dflt (.pair (.pair (.int .i64) (.pair .bool (.pair (.int .i64) (.pair .str (.pair .str (.pair (.int .i64) (.pair (.int .i64) .unit))))))) (.pair (.int .i64) (.pair (.int .i64) .unit))))).1.2.2.1, (((a0.1).getD (Int.toNat a1) (Ty.dflt (.pair (.pair (.int .i64) (.pair .bool (.pair (.int .i64) (.pair .str (.pair .str (.pair (.int .i64) (.pair (.int .i64) .unit))))))) (.pair (.int .i64) (.pair (.int .i64) .unit))))).1.2.2.2.1, (((a0.1).getD (Int.toNat a1) (Ty.dflt (.pair (.pair (.int .i64) (.pair .bool (.pair (.int .i64) (.pair .str (.pair .str (.pair (.int .i64) (.pair (.int .i64) .unit))))))) (.pair (.int .i64) (.pair (.int .i64) .unit))))).1.2.2.2.2.1, (((a0.1).length : Int), ((a0.1).getD (Int.toNat a1) (Ty.dflt (.pair (.pair (.int .i64) (.pair .bool (.pair (.int .i64) (.pair .str (.pair .str (.pair (.int .i64) (.pair (.int .i64) .unit))))))) (.pair (.int .i64) (.pair (.int .i64) .unit))))).1.2.2.2.2.2.2)))))), ((a0.1).getD (Int.toNat a1) (Ty.dflt (.pair (.pair (.int .i64) (.pair .bool (.pair (.int .i64) (.pair .str (.pair .str (.pair (.int .i64) (.pair (.int .i64) .unit))))))) (.pair (.int .i64) (.pair (.int .i64) .unit))))).2))).getD (Int.toNat a1) (Ty.dflt (.pair (.pair (.int .i64) (.pair .bool (.pair (.int .i64) (.pair .str (.pair .str (.pair (.int .i64) (.pair (.int .i64) .unit))))))) (.pair (.int .i64) (.pair (.int .i64) .unit))))).2.1, (((a0.1).length : Int), ()))))).length + (([(r4, (a1, ((-1), ())))] : List ((Int × (Bool × (Int × (List UInt8 × (List UInt8 × (Int × (Int × Unit))))))) × (Int × (Int × Unit))))).length ≤ maxRoom)) then
              some (((((((a0.1).set (Int.toNat a1) ((((a0.1).getD (Int.toNat a1) (Ty.dflt (.pair (.pair (.int .i64) (.pair .bool (.pair (.int .i64) (.pair .str (.pair .str (.pair (.int .i64) (.pair (.int .i64) .unit))))))) (.pair (.int .i64) (.pair (.int .i64) .unit))))).1.1, (((a0.1).getD (Int.toNat a1) (Ty.dflt (.pair (.pair (.int .i64) (.pair .bool (.pair (.int .i64) (.pair .str (.pair .str (.pair (.int .i64) (.pair (.int .i64) .unit))))))) (.pair (.int .i64) (.pair (.int .i64) .unit))))).1.2.1, (((a0.1).getD (Int.toNat a1) (Ty.dflt (.pair (.pair (.int .i64) (.pair .bool (.pair (.int .i64) (.pair .str (.pair .str (.pair (.int .i64) (.pair (.int .i64) .unit))))))) (.pair (.int .i64) (.pair (.int .i64) .unit))))).1.2.2.1, (((a0.1).getD (Int.toNat a1) (Ty.dflt (.pair (.pair (.int .i64) (.pair .bool (.pair (.int .i64) (.pair .str (.pair .str (.pair (.int .i64) (.pair (.int .i64) .unit))))))) (.pair (.int .i64) (.pair (.int .i64) .unit))))).1.2.2.2.1, (((a0.1).getD (Int.toNat a1) (Ty.dflt (.pair (.pair (.int .i64) (.pair .bool (.pair (.int .i64) (.pair .str (.pair .str (.pair (.int .i64) (.pair (.int .i64) .unit))))))) (.pair (.int .i64) (.pair (.int .i64) .unit))))).1.2.2.2.2.1, (((a0.1).length : Int), ((a0.1).getD (Int.toNat a1) (Ty.dflt (.pair (.pair (.int .i64) (.pair .bool (.pair (.int .i64) (.pair .str (.pair .str (.pair (.int .i64) (.pair (.int .i64) .unit))))))) (.pair (.int .i64) (.pair (.int .i64) .unit))))).1.2.2.2.2.2.2)))))), ((a0.1).getD (Int.toNat a1) (Ty.dflt (.pair (.pair (.int .i64) (.pair .bool (.pair (.int .i64) (.pair .str (.pair .str (.pair (.int .i64) (.pair (.int .i64) .unit))))))) (.pair (.int .i64) (.pair (.int .i64) .unit))))).2))).set (Int.toNat a1) (((((a0.1).set (Int.toNat a1) ((((a0.1).getD (Int.toNat a1) (Ty.dflt (.pair (.pair (.int .i64) (.pair .bool (.pair (.int .i64) (.pair .str (.pair .str (.pair (.int .i64) (.pair (.int .i64) .unit))))))) (.pair (.int .i64) (.pair (.int .i64) .unit))))).1.1, (((a0.1).getD (Int.toNat a1) (Ty.dflt (.pair (.pair (.int .i64) (.pair .bool (.pair (.int .i64) (.pair .str (.pair .str (.pair (.int .i64) (.pair (.int .i64) .unit))))))) (.pair (.int .i64) (.pair (.int .i64) .unit))))).1.2.1, (((a0.1).getD (Int.toNat a1) (Ty.dflt (.pair (.pair (.int .i64) (.pair .bool (.pair (.int .i64) (.pair .str (.pair .str (.pair (.int .i64) (.pair (.int .i64) .unit))))))) (.pair (.int .i64) (.pair (.int .i64) .unit))))).1.2.2.1, (((a0.1).getD (Int.toNat a1) (Ty.dflt (.pair (.pair (.int .i64) (.pair .bool (.pair (.int .i64) (.pair .str (.pair .str (.pair (.int .i64) (.pair (.int .i64) .unit))))))) (.pair (.int .i64) (.pair (.int .i64) .unit))))).1.2.2.2.1, (((a0.1).getD (Int.toNat a1) (Ty.dflt (.pair (.pair (.int .i64) (.pair .bool (.pair (.int .i64) (.pair .str (.pair .str (.pair (.int .i64) (.pair (.int .i64) .unit))))))) (.pair (.int .i64) (.pair (.int .i64) .unit))))).1.2.2.2.2.1, (((a0.1).length : Int), ((a0.1).getD (Int.toNat a1) (Ty.dflt (.pair (.pair (.int .i64) (.pair .bool (.pair (.int .i64) (.pair .str (.pair .str (.pair (.int .i64) (.pair (.int .i64) .unit))))))) (.pair (.int .i64) (.pair (.int .i64) .unit))))).1.2.2.2.2.2.2)))))), ((a0.1).getD (Int.toNat a1) (Ty.dflt (.pair (.pair (.int .i64) (.pair .bool (.pair (.int .i64) (.pair .str (.pair .str (.pair (.int .i64) (.pair (.int .i64) .unit))))))) (.pair (.int .i64) (.pair (.int .i64) .unit))))).2))).getD (Int.toNat a1) (Ty.dflt (.pair (.pair (.int .i64) (.pair .bool (.pair (.int .i64) (.pair .str (.pair .str (.pair (.int .i64) (.pair (.int .i64) .unit))))))) (.pair (.int .i64) (.pair (.int .i64) .unit))))).1, (((((a0.1).set (Int.toNat a1) ((((a0.1).getD (Int.toNat a1) (Ty.dflt (.pair (.pair (.int .i64) (.pair .bool (.pair (.int .i64) (.pair .str (.pair .str (.pair (.int .i64) (.pair (.int .i64) .unit))))))) (.pair (.int .i64) (.pair (.int .i64) .unit))))).1.1, (((a0.1).getD (Int.toNat a1) (Ty.dflt (.pair (.pair (.int .i64) (.pair .bool (.pair (.int .i64) (.pair .str (.pair .str (.pair (.int .i64) (.pair (.int .i64) .unit))))))) (.pair (.int .i64) (.pair (.int .i64) .unit))))).1.2.1, (((a0.1).getD (Int.toNat a1) (Ty.dflt (.pair (.pair (.int .i64) (.pair .bool (.pair (.int .i64) (.pair .str (.pair .str (.pair (.int .i64) (.pair (.int .i64) .unit))))))) (.pair (.int .i64) (.pair (.int .i64) .unit))))).1.2.2.1, (((a0.1).getD (Int.toNat a1) (Ty.dflt (.pair (.pair (.int .i64) (.pair .bool (.pair (.int .i64) (.pair .str (.pair .str (.pair (.int .i64) (.pair (.int .i64) .unit))))))) (.pair (.int .i64) (.pair (.int .i64) .unit))))).1.2.2.2.1, (((a0.1).getD (Int.toNat a1) (Ty.dflt (.pair (.pair (.int .i64) (.pair .bool (.pair (.int .i64) (.pair .str (.pair .str (.pair (.int .i64) (.pair (.int .i64) .unit))))))) (.pair (.int .i64) (.pair (.int .i64) .unit))))).1.2.2.2.2.1, (((a0.1).length : Int), ((a0.1).getD (Int.toNat a1) (Ty.dflt (.pair (.pair (.int .i64) (.pair .bool (.pair (.int .i64) (.pair .str (.pair .str (.pair (.int .i64) (.pair (.int .i64) .unit))))))) (.pair (.int .i64) (.pair (.int .i64) .unit))))).1.2.2.2.2.2.2)))))), ((a0.1).getD (Int.toNat a1) (Ty.dflt (.pair (.pair (.int .i64) (.pair .bool (.pair (.int .i64) (.pair .str (.pair .str (.pair (.int .i64) (.pair (.int .i64) .unit))))))) (.pair (.int .i64) (.pair (.int .i64) .unit))))).2))).getD (Int.toNat a1) (Ty.dflt (.pair (.pair (.int .i64) (.pair .bool (.pair (.int .i64) (.pair .str (.pair .str (.pair (.int .i64) (.pair (.int .i64) .unit))))))) (.pair (.int .i64) (.pair (.int .i64) .unit))))).2.1, (((a0.1).length : Int), ())))) ++ ([(r4, (a1, ((-1), ())))] : List ((Int × (Bool × (Int × (List UInt8 × (List UInt8 × (Int × (Int × Unit))))))) × (Int × (Int × Unit))))), ()), ((a0.1).length : Int))
              else none)
              | none => none)
            else
              (bif inB ((a0.1).getD (Int.toNat a1) (Ty.dflt (.pair (.pair (.int .i64) (.pair .bool (.pair (.int .i64) (.pair .str (.pair .str (.pair (.int .i64) (.pair (.int .i64) .unit))))))) (.pair (.int .i64) (.pair (.int .i64) .unit))))).2.2.1 (a0.1).length then
              (match F26 n a2 ((a0.1).getD (Int.toNat a1) (Ty.dflt (.pair (.pair (.int .i64) (.pair .bool (.pair (.int .i64) (.pair .str (.pair .str (.pair (.int .i64) (.pair (.int .i64) .unit))))))) (.pair (.int .i64) (.pair (.int .i64) .unit))))).1.1 with
              | some r5 =>
              (bif (decide (((((((a0.1).set (Int.toNat ((a0.1).getD (Int.toNat a1) (Ty.dflt (.pair (.pair (.int .i64) (.pair .bool (.pair (.int .i64) (.pair .str (.pair .str (.pair (.int .i64) (.pair (.int .i64) .unit))))))) (.pair (.int .i64) (.pair (.int .i64) .unit))))).2.2.1) ((((a0.1).getD (Int.toNat ((a0.1).getD (Int.toNat a1) (Ty.dflt (.pair (.pair (.int .i64) (.pair .bool (.pair (.int .i64) (.pair .str (.pair .str (.pair (.int .i64) (.pair (.int .i64) .unit))))))) (.pair (.int .i64) (.pair (.int .i64) .unit))))).2.2.1) (Ty.dflt (.pair (.pair (.int .i64) (.pair .bool (.pair (.int .i64) (.pair .str (.pair .str (.pair (.int .i64) (.pair (.int .i64) .unit))))))) (.pair (.int .i64) (.pair (.int .i64) .unit))))).1.1, (((a0.1).getD (Int.toNat ((a0.1).getD (Int.toNat a1) (Ty.dflt (.pair (.pair (.int .i64) (.pair .bool (.pair (.int .i64) (.pair .str (.pair .str (.pair (.int .i64) (.pair (.int .i64) .unit))))))) (.pair (.int .i64) (.pair (.int .i64) .unit))))).2.2.1) (Ty.dflt (.pair (.pair (.int .i64) (.pair .bool (.pair (.int .i64) (.pair .str (.pair .str (.pair (.int .i64) (.pair (.int .i64) .unit))))))) (.pair (.int .i64) (.pair (.int .i64) .unit))))).1.2.1, (((a0.1).getD (Int.toNat ((a0.1).getD (Int.toNat a1) (Ty.dflt (.pair (.pair (.int .i64) (.pair .bool (.pair (.int .i64) (.pair .str (.pair .str (.pair (.int .i64) (.pair (.int .i64) .unit))))))) (.pair (.int .i64) (.pair (.int .i64) .unit))))).2.2.1) (Ty.dflt (.pair (.pair (.int .i64) (.pair .bool (.pair (.int .i64) (.pair .str (.pair .str (.pair (.int .i64) (.pair (.int .i64) .unit))))))) (.pair (.int .i64) (.pair (.int .i64) .unit))))).1.2.2.1, (((a0.1).getD (Int.toNat ((a0.1).getD (Int.toNat a1) (Ty.dflt (.pair (.pair (.int .i64) (.pair .bool (.pair (.int .i64) (.pair .str (.pair .str (.pair (.int .i64) (.pair (.int .i64) .unit))))))) (.pair (.int .i64) (.pair (.int .i64) .unit))))).2.2.1) (Ty.dflt (.pair (.pair (.int .i64) (.pair .bool (.pair (.int .i64) (.pair .str (.pair .str (.pair (.int .i64) (.pair (.int .i64) .unit))))))) (.pair (.int .i64) (.pair (.int .i64) .unit))))).1.2.2.2.1, (((a0.1).getD (Int.toNat ((a0.1).getD (Int.toNat a1) (Ty.dflt (.pair (.pair (.int .i64) (.pair .bool (.pair (.int .i64) (.pair .str (.pair .str (.pair (.int .i64) (.pair (.int .i64) .unit))))))) (.pair (.int .i64) (.pair (.int .i64) .unit))))).2.2.1) (Ty.dflt (.pair (.pair (.int .i64) (.pair .bool (.pair (.int .i64) (.pair .str (.pair .str (.pair (.int .i64) (.pair (.int .i64) .unit))))))) (.pair (.int .i64) (.pair (.int .i64) .unit))))).1.2.2.2.2.1, (((a0.1).getD (Int.toNat ((a0.1).getD (Int.toNat a1) (Ty.dflt (.pair (.pair (.int .i64) (.pair .bool (.pair (.int .i64) (.pair .str (.pair .str (.pair (.int .i64) (.pair (.int .i64) .unit))))))) (.pair (.int .i64) (.pair (.int .i64) .unit))))).2.2.1) (Ty.dflt (.pair (.pair (.int .i64) (.pair .bool (.pair (.int .i64) (.pair .str (.pair .str (.pair (.int .i64) (.pair (.int .i64) .unit))))))) (.pair (.int .i64) (.pair (.int .i64) .unit))))).1.2.2.2.2.2.1, (((a0.1).length : Int), ()))))))), ((a0.1).getD (Int.toNat ((a0.1).getD (Int.toNat a1) (Ty.dflt (.pair (.pair (.int .i64) (.pair .bool (.pair (.int .i64) (.pair .str (.pair .str (.pair (.int .i64) (.pair (.int .i64) .unit))))))) (.pair (.int .i64) (.pair (.int .i64) .unit))))).2.2.1) (Ty.dflt (.pair (.pair (.int .i64) (.pair .bool (.pair (.int .i64) (.pair .str (.pair .str (.pair (.int .i64) (.pair (.int .i64) .unit))))))) (.pair (.int .i64) (.pair (.int .i64) .unit))))).2))).set (Int.toNat a1) (((((a0.1).set (Int.toNat ((a0.1).getD (Int.toNat a1) (Ty.dflt (.pair (.pair (.int .i64) (.pair .bool (.pair (.int .i64) (.pair .str (.pair .str (.pair (.int .i64) (.pair (.int .i64) .unit))))))) (.pair (.int .i64) (.pair (.int .i64) .unit))))).2.2.1) ((((a0.1).getD (Int.toNat ((a0.1).getD (Int.toNat a1) (Ty.dflt (.pair (.pair (.int .i64) (.pair .bool (.pair (.int .i64) (.pair .str (.pair .str (.pair (.int .i64) (.pair (.int .i64) .unit))))))) (.pair (.int .i64) (.pair (.int .i64) .unit))))).2.2.1) (Ty.dflt (.pair (.pair (.int .i64) (.pair .bool (.pair (.int .i64) (.pair .str (.pair .str (.pair (.int .i64) (.pair (.int .i64) .unit))))))) (.pair (.int .i64) (.pair (.int .i64) .unit))))).1.1, (((a0.1).getD (Int.toNat ((a0.1).getD (Int.toNat a1) (Ty.dflt (.pair (.pair (.int .i64) (.pair .bool (.pair (.int .i64) (.pair .str (.pair .str (.pair (.int .i64) (.pair (.int .i64) .unit))))))) (.pair (.int .i64) (.pair (.int .i64) .unit))))).2.2.1) (Ty.dflt (.pair (.pair (.int .i64) (.pair .bool (.pair (.int .i64) (.pair .str (.pair .str (.pair (.int .i64) (.pair (.int .i64) .unit))))))) (.pair (.int .i64) (.pair (.int .i64) .unit))))).1.2.1, (((a0.1).getD (Int.toNat ((a0.1).getD (Int.toNat a1) (Ty.dflt (.pair (.pair (.int .i64) (.pair .bool (.pair (.int .i64) (.pair .str (.pair .str (.pair (.int .i64) (.pair (.int .i64) .unit))))))) (.pair (.int .i64) (.pair (.int .i64) .unit))))).2.2.1) (Ty.dflt (.pair (.pair (.int .i64) (.pair .bool (.pair (.int .i64) (.pair .str (.pair .str (.pair (.int .i64) (.pair (.int .i64) .unit))))))) (.pair (.int .i64) (.pair (.int .i64) .unit))))).1.2.2.1, (((a0.1).getD (Int.toNat ((a0.1).getD (Int.toNat a1) (Ty.dflt (.pair (.pair (.int .i64) (.pair .bool (.pair (.int .i64) (.pair .str (.pair .str (.pair (.int .i64) (.pair (.int .i64) .unit))))))) (.pair (.int .i64) (.pair (.int .i64) .unit))))).2.2.1) (Ty.dflt (.pair (.pair (.int .i64) (.pair .bool (.pair (.int .i64) (.pair .str (.pair .str (.pair (.int .i64) (.pair (.int .i64) .unit))))))) (.pair (.int .i64) (.pair (.int .i64) .unit))))).1.2.2.2.1, (((a0.1).getD (Int.toNat ((a0.1).getD (Int.toNat a1) (Ty.dflt (.pair (.pair (.int .i64) (.pair .bool (.pair (.int .i64) (.pair .str (.pair .str (.pair (.int .i64) (.pair (.int .i64) .unit))))))) (.pair (.int .i64) (.pair (.int .i64) .unit))))).2.2.1) (Ty.dflt (.pair (.pair (.int .i64) (.pair .bool (.pair (.int .i64) (.pair .str (.pair .str (.pair (.int .i64) (.pair (.int .i64) .unit))))))) (.pair (.int .i64) (.pair (.int .i64) .unit))))).1.2.2.2.2.1, (((a0.1).getD (Int.toNat ((a0.1).getD (Int.toNat a1) (Ty.dflt (.pair (.pair (.int .i64) (.pair .bool (.pair (.int .i64) (.pair .str (.pair .str (.pair (.int .i64) (.pair (.int .i64) .unit))))))) (.pair (.int .i64) (.pair (.int .i64) .unit))))).2.2.1) (Ty.dflt (.pair (.pair (.int .i64) (.pair .bool (.pair (.int .i64) (.pair .str (.pair .str (.pair (.int .i64) (.pair (.int .i64) .unit))))))) (.pair (.int .i64) (.pair (.int .i64) .unit))))).1.2.2.2.2.2.1, (((a0.1).length : Int), ()))))))), ((a0.1).getD (Int.toNat ((a0.1).getD (Int.toNat a1) (Ty.dflt (.pair (.pair (.int .i64) (.pair .bool (.pair (.int .i64) (.pair .str (.pair .str (.pair (.int .i64) (.pair (.int .i64) .unit))))))) (.pair (.int .i64) (.pair (.int .i64) .unit))))).2.2.1) (Ty.dflt (.pair (.pair (.int .i64) (.pair .bool (.pair (.int .i64) (.pair .str (.pair .str (.pair (.int .i64) (.pair (.int .i64) .unit))))))) (.pair (.int .i64) (.pair (.int .i64) .unit))))).2))).getD (Int.toNat a1) (Ty.dflt (.pair (.pair (.int .i64) (.pair .bool (.pair (.int .i64) (.pair .str (.pair .str (.pair (.int .i64) (.pair (.int .i64) .unit))))))) (.pair (.int .i64) (.pair (.int .i64) .unit))))).1, (((((a0.1).set (Int.toNat ((a0.1).getD (Int.toNat a1) (Ty.dflt (.pair (.pair (.int .i64) (.pair .bool (.pair (.int .i64) (.pair .str (.pair .str (.pair (.int .i64) (.pair (.int .i64) .unit))))))) (.pair (.int .i64) (.pair (.int .i64) .unit))))).2.2.1) ((((a0.1).getD (Int.toNat ((a0.1).getD (Int.toNat a1) (Ty.dflt (.pair (.pair (.int .i64) (.pair .bool (.pair (.int .i64) (.pair .str (.pair .str (.pair (.int .i64) (.pair (.int .i64) .unit))))))) (.pair (.int .i64) (.pair (.int .i64) .unit))))).2.2.1) (Ty.dflt (.pair (.pair (.int .i64) (.pair .bool (.pair (.int .i64) (.pair .str (.pair .str (.pair (.int .i64) (.pair (.int .i64) .unit))))))) (.pair (.int .i64) (.pair (.int .i64) .unit))))).1.1, (((a0.1).getD (Int.toNat ((a0.1).getD (Int.toNat a1) (Ty.dflt (.pair (.pair (.int .i64) (.pair .bool (.pair (.int .i64) (.pair .str (.pair .str (.pair (.int .i64) (.pair (.int .i64) .unit))))))) (.pair (.int .i64) (.pair (.int .i64) .unit))))).2.2.1) (Ty.dflt (.pair (.pair (.int .i64) (.pair .bool (.pair (.int .i64) (.pair .str (.pair .str (.pair (.int .i64) (.pair (.int .i64) .unit))))))) (.pair (.int .i64) (.pair (.int .i64) .unit))))).1.2.1, (((a0.1).getD (Int.toNat ((a0.1).getD (Int.toNat a1) (Ty.dflt (.pair (.pair (.int .i64) (.pair .bool (.pair (.int .i64) (.pair .str (.pair .str (.pair (.int .i64) (.pair (.int .i64) .unit))))))) (.pair (.int .i64) (.pair (.int .i64) .unit))))).2.2.1) (Ty.dflt (.pair (.pair (.int .i64) (.pair .bool (.pair (.int .i64) (.pair .str (.pair .str (.pair (.int .i64) (.pair (.int .i64) .unit))))))) (.pair (.int .i64) (.pair (.int .i64) .unit))))).1.2.2.1, (((a0.1).getD (Int.toNat ((a0.1).getD (Int.toNat a1) (Ty.dflt (.pair (.pair (.int .i64) (.pair .bool (.pair (.int .i64) (.pair .str (.pair .str (.pair (.int .i64) (.pair (.int .i64) .unit))))))) (.pair (.int .i64) (.pair (.int .i64) .unit))))).2.2.1) (Ty.dflt (.pair (.pair (.int .i64) (.pair .bool (.pair (.int .i64) (.pair .str (.pair .str (.pair (.int .i64) (.pair (.int .i64) .unit))))))) (.pair (.int .i64) (.pair (.int .i64) .unit))))).1.2.2.2.1, (((a0.1).getD (Int.toNat ((a0.1).getD (Int.toNat a1) (Ty.dflt (.pair (.pair (.int .i64) (.pair .bool (.pair (.int .i64) (.pair .str (.pair .str (.pair (.int .i64) (.pair (.int .i64) .unit))))))) (.pair (.int .i64) (.pair (.int .i64) .unit))))).2.2.1) (Ty.dflt (.pair (.pair (.int .i64) (.pair .bool (.pair (.int .i64) (.pair .str (.pair .str (.pair (.int .i64) (.pair (.int .i64) .unit))))))) (.pair (.int .i64) (.pair (.int .i64) .unit))))).1.2.2.2.2.1, (((a0.1).getD (Int.toNat ((a0.1).getD (Int.toNat a1) (Ty.dflt (.pair (.pair (.int .i64) (.pair .bool (.pair (.int .i64) (.pair .str (.pair .str (.pair (.int .i64) (.pair (.int .i64) .unit))))))) (.pair (.int .i64) (.pair (.int .i64) .unit))))).2.2.1) (Ty.dflt (.pair (.pair (.int .i64) (.pair .bool (.pair (.int .i64) (.pair .str (.pair .str (.pair (.int .i64) (.pair (.int .i64) .unit))))))) (.pair (.int .i64) (.pair (.int .i64) .unit))))).1.2.2.2.2.2.1, (((a0.1).length : Int), ()))))))), ((a0.1).getD (Int.toNat ((a0.1).getD (Int.toNat a1) (Ty.dflt (.pair (.pair (.int .i64) (.pair .bool (.pair (.int .i64) (.pair .str (.pair .str (.pair (.int .i64) (.pair (.int .i64) .unit))))))) (.pair (.int .i64) (.pair (.int .i64) .unit))))).2.2.1) (Ty.dflt (.pair (.pair (.int .i64) (.pair .bool (.pair (.int .i64) (.pair .str (.pair .str (.pair (.int .i64) (.pair (.int .i64) .unit))))))) (.pair (.int .i64) (.pair (.int .i64) .unit))))).2))).getD (Int.toNat a1) (Ty.dflt (.pair (.pair (.int .i64) (.pair .bool (.pair (.int .i64) (.pair .str (.pair .str (.pair (.int .i64) (.pair (.int .i64) .unit))))))) (.pair (.int .i64) (.pair (.int .i64) .unit))))).2.1, (((a0.1).length : Int), ()))))).length + (([(r5, (a1, ((-1), ())))] : List ((Int × (Bool × (Int × (List UInt8 × (List UInt8 × (Int × (Int × Unit))))))) × (Int × (Int × Unit))))).length) * 88 ≤ maxRoom) && decide ((((((a0.1).set (Int.toNat ((a0.1).getD (Int.toNat a1) (Ty.dflt (.pair (.pair (.int .i64) (.pair .bool (.pair (.int .i64) (.pair .str (.pair .str (.pair (.int .i64) (.pair (.int .i64) .unit))))))) (.pair (.int .i64) (.pair (.int .i64) .unit))))).2.2.1) ((((a0.1).getD (Int.toNat ((a0.1).getD (Int.toNat a1) (Ty.dflt (.pair (.pair (.int .i64) (.pair .bool (.pair (.int .i64) (.pair .str (.pair .str (.pair (.int .i64) (.pair (.int .i64) .unit))))))) (.pair (.int .i64) (.pair (.int .i64) .unit))))).2.2.1) (Ty.dflt (.pair (.pair (.int .i64) (.pair .bool (.pair (.int .i64) (.pair .str (.pair .str (.pair (.int .i64) (.pair (.int .i64) .unit))))))) (.pair (.int .i64) (.pair (.int .i64) .unit))))).1.1, (((a0.1).getD (Int.toNat ((a0.1).getD (Int.toNat a1) (Ty.dflt (.pair (.pair (.int .i64) (.pair .bool (.pair (.int .i64) (.pair .str (.pair .str (.pair (.int .i64) (.pair (.int .i64) .unit))))))) (.pair (.int .i64) (.pair (.int .i64) .unit))))).2.2.1) (Ty.dflt (.pair (.pair (.int .i64) (.pair .bool (.pair (.int .i64) (.pair .str (.pair .str (.pair (.int .i64) (.pair (.int .i64) .unit))))))) (.pair (.int .i64) (.pair (.int .i64) .unit))))).1.2.1, (((a0.1).getD (Int.toNat ((a0.1).getD (Int.toNat a1) (Ty.dflt (.pair (.pair (.int .i64) (.pair .bool (.pair (.int .i64) (.pair .str (.pair .str (.pair (.int .i64) (.pair (.int .i64) .unit))))))) (.pair (.int .i64) (.pair (.int .i64) .unit))))).2.2.1) (Ty.dflt (.pair (.pair (.int .i64) (.pair .bool (.pair (.int .i64) (.pair .str (.pair .str (.pair (.int .i64) (.pair (.int .i64) .unit))))))) (.pair (.int .i64) (.pair (.int .i64) .unit))))).1.2.2.1, (((a0.1).getD (Int.toNat ((a0.1).getD (Int.toNat a1) (Ty.dflt (.pair (.pair (.int .i64) (.pair .bool (.pair (.int .i64) (.pair .str (.pair .str (.pair (.int .i64) (.pair (.int .i64) .unit))))))) (.pair (.int .i64) (.pair (.int .i64) .unit))))).2.2.1) (Ty.dflt (.pair (.pair (.int .i64) (.pair .bool (.pair (.int .i64) (.pair .str (.pair .str (.pair (.int .i64) (.pair (.int .i64) .unit))))))) (.pair (.int .i64) (.pair (.int .i64) .unit))))).1.2.2.2.1, (((a0.1).getD (Int.toNat ((a0.1).getD (Int.toNat a1) (Ty.dflt (.pair (.pair (.int .i64) (.pair .bool (.pair (.int .i64) (.pair .str (.pair .str (.pair (.int .i64) (.pair (.int .i64) .unit))))))) (.pair (.int .i64) (.pair (.int .i64) .unit))))).2.2.1) (Ty.dflt (.pair (.pair (.int .i64) (.pair .bool (.pair (.int .i64) (.pair .str (.pair .str (.pair (.int .i64) (.pair (.int .i64) .unit))))))) (.pair (.int .i64) (.pair (.int .i64) .unit))))).1.2.2.2.2.1, (((a0.1).getD (Int.toNat ((a0.1).getD (Int.toNat a1) (Ty.dflt (.pair (.pair (.int .i64) (.pair .bool (.pair (.int .i64) (.pair .str (.pair .str (.pair (.int .i64) (.pair (.int .i64) .unit))))))) (.pair (.int .i64) (.pair (.int .i64) .unit))))).2.2.1) (Ty.dflt (.pair (.pair (.int .i64) (.pair .bool (.pair (.int .i64) (.pair .str (.pair .str (.pair (.int .i64) (.pair (.int .i64) .unit))))))) (.pair (.int .i64) (.pair (.int .i64) .unit))))).1.2.2.2.2.2.1, (((a0.1).length : Int), ()))))))), ((a0.1).getD (Int.toNat ((a0.1).getD (Int.toNat a1) (Ty.dflt (.pair (.pair (.int .i64) (.pair .bool (.pair (.int .i64) (.pair .str (.pair .str (.pair (.int .i64) (.pair (.int .i64) .unit))))))) (.pair (.int .i64) (.pair (.int .i64) .unit))))).2.2.1) (Ty.dflt (.pair (.pair (.int .i64) (.pair .bool (.pair (.int .i64) (.pair .str (.pair .str (.pair (.int .i64) (.pair (.int .i64) .unit))))))) (.pair (.int .i64) (.pair (.int .i64) .unit))))).2))).set (Int.toNat a1) (((((a0.1).set (Int.toNat ((a0.1).getD (Int.toNat a1) (Ty.dflt (.pair (.pair (.int .i64) (.pair .bool (.pair (.int .i64) (.pair .str (.pair .str (.pair (.int .i64) (.pair (.int .i64) .unit))))))) (.pair (.int .i64) (.pair (.int .i64) .unit))))).2.2.1) ((((a0.1).getD (Int.toNat ((a0.1).getD (Int.toNat a1) (Ty.dflt (.pair (.pair (.int .i64) (.pair .bool (.pair (.int .i64) (.pair .str (.pair .str (.pair (.int .i64) (.pair (.int .i64) .unit))))))) (.pair (.int .i64) (.pair (.int .i64) .unit))))).2.2.1) (Ty.dflt (.pair (.pair (.int .i64) (.pair .bool (.pair (.int .i64) (.pair .str (.pair .str (.pair (.int .i64) (.pair (.int .i64) .unit))))))) (.pair (.int .i64) (.pair (.int .i64) .unit))))).1.1, (((a0.1).getD (Int.toNat ((a0.1).getD (Int.toNat a1) (Ty.dflt (.pair (.pair (.int .i64) (.pair .bool (.pair (.int .i64) (.pair .str (.pair .str (.pair (.int .i64) (.pair (.int .i64) .unit))))))) (.pair (.int .i64) (.pair (.int .i64) .unit))))).2.2.1) (Ty.dflt (.pair (.pair (.int .i64) (.pair .bool (.pair (.int .i64) (.pair .str (.pair .str (.pair (.int .i64) (.pair (.int .i64) .unit))))))) (.pair (.int .i64) (.pair (.int .i64) .unit))))).1.2.1, (((a0.1).getD (Int.toNat ((a0.1).getD (Int.toNat a1) (Ty.dflt (.pair (.pair (.int .i64) (.pair .bool (.pair (.int .i64) (.pair .str (.pair .str (.pair (.int .i64) (.pair (.int .i64) .unit))))))) (.pair (.int .i64) (.pair (.int .i64) .unit))))).2.2.1) (Ty.dflt (.pair (.pair (.int .i64) (.pair .bool (.pair (.int .i64) (.pair .str (.pair .str (.pair (.int .i64) (.pair (.int .i64) .unit))))))) (.pair (.int .i64) (.pair (.int .i64) .unit))))).1.2.2.1, (((a0.1).getD (Int.toNat ((a0.1).getD (Int.toNat a1) (Ty.dflt (.pair (.pair (.int .i64) (.pair .bool (.pair (.int .i64) (.pair .str (.pair .str (.pair (.int .i64) (.pair (.int .i64) .unit))))))) (.pair (.int .i64) (.pair (.int .i64) .unit))))).2.2.1) (Ty.dflt (.pair (.pair (.int .i64) (.pair .bool (.pair (.int .i64) (.pair .str (.pair .str (.pair (.int .i64) (.pair (.int .i64) .unit))))))) (.pair (.int .i64) (.pair (.int .i64) .unit))))).1.2.2.2.1, (((a0.1).getD (Int.toNat ((a0.1).getD (Int.toNat a1) (Ty.dflt (.pair (.pair (.int .i64) (.pair .bool (.pair (.int .i64) (.pair .str (.pair .str (.pair (.int .i64) (.pair (.int .i64) .unit))))))) (.pair (.int .i64) (.pair (.int .i64) .unit))))).2.2.1) (Ty.dflt (.pair (.pair (.int .i64) (.pair .bool (.pair (.int .i64) (.pair .str (.pair .str (.pair (.int .i64) (.pair (.int .i64) .unit))))))) (.pair (.int .i64) (.pair (.int .i64) .unit))))).1.2.2.2.2.1, (((a0.1).getD (Int.toNat ((a0.1).getD (Int.toNat a1) (Ty.dflt (.pair (.pair (.int .i64) (.pair .bool (.pair (.int .i64) (.pair .str (.pair .str (.pair (.int .i64) (.pair (.int .i64) .unit))))))) (.pair (.int .i64) (.pair (.int .i64) .unit))))).2.2.1) (Ty.dflt (.pair (.pair (.int .i64) (.pair .bool (.pair (.int .i64) (.pair .str (.pair .str (.pair (.int .i64) (.pair (.int .i64) .unit))))))) (.pair (.int .i64) (.pair (.int .i64) .unit))))).1.2.2.2.2.2.1, (((a0.1).length : Int), ()))))))), ((a0.1).getD (Int.toNat ((a0.1).getD (Int.toNat a1) (Ty.dflt (.pair (.pair (.int .i64) (.pair .bool (.pair (.int .i64) (.pair .str (.pair .str (.pair (.int .i64) (.pair (.int .i64) .unit))))))) (.pair (.int .i64) (.pair (.int .i64) .unit))))).2.2.1) (Ty.dflt (.pair (.pair (.int .i64) (.pair .bool (.pair (.int .i64) (.pair .str (.pair .str (.pair (.int .i64) (.pair (.int .i64) .unit))))))) (.pair (.int .i64) (.pair (.int .i64) .unit))))).2))).getD (Int.toNat a1) (Ty.dflt (.pair (.pair (.int .i64) (.pair .bool (.pair (.int .i64) (.pair .str (.pair .str (.pair (.int .i64) (.pair (.int .i64) .unit))))))) (.pair (.int .i64) (.pair (.int .i64) .unit))))).1, (((((a0.1).set (Int.toNat ((a0.1).getD (Int.toNat a1) (Ty.dflt (.pair (.pair (.int .i64) (.pair .bool (.pair (.int .i64) (.pair .str (.pair .str (.pair (.int .i64) (.pair (.int .i64) .unit))))))) (.pair (.int .i64) (.pair (.int .i64) .unit))))).2.2.1) ((((a0.1).getD (Int.toNat ((a0.1).getD (Int.toNat a1) (Ty.dflt (.pair (.pair (.int .i64) (.pair .bool (.pair (.int .i64) (.pair .str (.pair .str (.pair (.int .i64) (.pair (.int .i64) .unit))))))) (.pair (.int .i64) (.pair (.int .i64) .unit))))).2.2.1) (Ty.dflt (.pair (.pair (.int .i64) (.pair .bool (.pair (.int .i64) (.pair .str (.pair .str (.pair (.int .i64) (.pair (.int .i64) .unit))))))) (.pair (.int .i64) (.pair (.int .i64) .unit))))).1.1, (((a0.1).getD (Int.toNat ((a0.1).getD (Int.toNat a1) (Ty.dflt (.pair (.pair (.int .i64) (.pair .bool (.pair (.int .i64) (.pair .str (.pair .str (.pair (.int .i64) (.pair (.int .i64) .unit))))))) (.pair (.int .i64) (.pair (.int .i64) .unit))))).2.2.1) (Ty.dflt (.pair (.pair (.int .i64) (.pair .bool (.pair (.int .i64) (.pair .str (.pair .str (.pair (.int .i64) (.pair (.int .i64) .unit))))))) (.pair (.int .i64) (.pair (.int .i64) .unit))))).1.2.1, (((a0.1).getD (Int.toNat ((a0.1).getD (Int.toNat a1) (Ty.dflt (.pair (.pair (.int .i64) (.pair .bool (.pair (.int .i64) (.pair .str (.pair .str (.pair (.int .i64) (.pair (.int .i64) .unit))))))) (.pair (.int .i64) (.pair (.int .i64) .unit))))).2.2.1) (Ty.dflt (.pair (.pair (.int .i64) (.pair .bool (.pair (.int .i64) (.pair .str (.pair .str (.pair (.int .i64) (.pair (.int .i64) .unit))))))) (.pair (.int .i64) (.pair (.int .i64) .unit))))).1.2.2.1, (((a0.1).getD (Int.toNat ((a0.1).getD (Int.toNat a1) (Ty.dflt (.pair (.pair (.int .i64) (.pair .bool (.pair (.int .i64) (.pair .str (.pair .str (.pair (.int .i64) (.pair (.int .i64) .unit))))))) (.pair (.int .i64) (.pair (.int .i64) .unit))))).2.2.1) (Ty.dflt (.pair (.pair (.int .i64) (.pair .bool (.pair (.int .i64) (.pair .str (.pair .str (.pair (.int .i64) (.pair (.int .i64) .unit))))))) (.pair (.int .i64) (.pair (.int .i64) .unit))))).1.2.2.2.1, (((a0.1).getD (Int.toNat ((a0.1).getD (Int.toNat a1) (Ty.dflt (.pair (.pair (.int .i64) (.pair .bool (.pair (.int .i64) (.pair .str (.pair .str (.pair (.int .i64) (.pair (.int .i64) .unit))))))) (.pair (.int .i64) (.pair (.int .i64) .unit))))).2.2.1) (Ty.dflt (.pair (.pair (.int .i64) (.pair .bool (.pair (.int .i64) (.pair .str (.pair .str (.pair (.int .i64) (.pair (.int .i64) .unit))))))) (.pair (.int .i64) (.pair (.int .i64) .unit))))).1.2.2.2.2.1, (((a0.1).getD (Int.toNat ((a0.1).getD (Int.toNat a1) (Ty.dflt (.pair (.pair (.int .i64) (.pair .bool (.pair (.int .i64) (.pair .str (.pair .str (.pair (.int .i64) (.pair (.int .i64) .unit))))))) (.pair (.int .i64) (.pair (.int .i64) .unit))))).2.2.1) (Ty.dflt (.pair (.pair (.int .i64) (.pair .bool (.pair (.int .i64) (.pair .str (.pair .str (.pair (.int .i64) (.pair (.int .i64) .unit))))))) (.pair (.int .i64) (.pair (.int .i64) .unit))))).1.2.2.2.2.2.1, (((a0.1).length : Int), ()))))))), ((a0.1).getD (Int.toNat ((a0.1).getD (Int.toNat a1) (Ty.dflt (.pair (.pair (.int .i64) (.pair .bool (.pair (.int .i64) (.pair .str (.pair .str (.pair (.int .i64) (.pair (.int .i64) .unit))))))) (.pair (.int .i64) (.pair (.int .i64) .unit))))).2.2.1) (Ty.dflt (.pair (.pair (.int .i64) (.pair .bool (.pair (.int .i64) (.pair .str (.pair .str (.pair (.int .i64) (.pair (.int .i64) .unit))))))) (.pair (.int .i64) (.pair (.int .i64) .unit))))).2))).getD (Int.toNat a1) (Ty.dflt (.pair (.pair (.int .i64) (.pair .bool (.pair (.int .i64) (.pair .str (.pair .str (.pair (.int .i64) (.pair (.int .i64) .unit))))))) (.pair (.int .i64) (.pair (.int .i64) .unit))))).2.1, (((a0.1).length : Int), ()))))).length + (([(r5, (a1, ((-1), ())))] : List ((Int × (Bool × (Int × (List UInt8 × (List UInt8 × (Int × (Int × Unit))))))) × (Int × (Int × Unit))))).length ≤ maxRoom)) then
              some (((((((a0.1).set (Int.toNat ((a0.1).getD (Int.toNat a1) (Ty.dflt (.pair (.pair (.int .i64) (.pair .bool (.pair (.int .i64) (.pair .str (.pair .str (.pair (.int .i64) (.pair (.int .i64) .unit))))))) (.pair (.int .i64) (.pair (.int .i64) .unit))))).2.2.1) ((((a0.1).getD (Int.toNat ((a0.1).getD (Int.toNat a1) (Ty.dflt (.pair (.pair (.int .i64) (.pair .bool (.pair (.int .i64) (.pair .str (.pair .str (.pair (.int .i64) (.pair (.int .i64) .unit))))))) (.pair (.int .i64) (.pair (.int .i64) .unit))))).2.2.1) (Ty.dflt (.pair (.pair (.int .i64) (.pair .bool (.pair (.int .i64) (.pair .str (.pair .str (.pair (.int .i64) (.pair (.int .i64) .unit))))))) (.pair (.int .i64) (.pair (.int .i64) .unit))))).1.1, (((a0.1).getD (Int.toNat ((a0.1).getD (Int.toNat a1) (Ty.dflt (.pair (.pair (.int .i64) (.pair .bool (.pair (.int .i64) (.pair .str (.pair .str (.pair (.int .i64) (.pair (.int .i64) .unit))))))) (.pair (.int .i64) (.pair (.int .i64) .unit))))).2.2.1) (Ty.dflt (.pair (.pair (.int .i64) (.pair .bool (.pair (.int .i64) (.pair .str (.pair .str (.pair (.int .i64) (.pair (.int .i64) .unit))))))) (.pair (.int .i64) (.pair (.int .i64) .unit))))).1.2.1, (((a0.1).getD (Int.toNat ((a0.1).getD (Int.toNat a1) (Ty.dflt (.pair (.pair (.int .i64) (.pair .bool (.pair (.int .i64) (.pair .str (.pair .str (.pair (.int .i64) (.pair (.int .i64) .unit))))))) (.pair (.int .i64) (.pair (.int .i64) .unit))))).2.2.1) (Ty.dflt (.pair (.pair (.int .i64) (.pair .bool (.pair (.int .i64) (.pair .str (.pair .str (.pair (.int .i64) (.pair (.int .i64) .unit))))))) (.pair (.int .i64) (.pair (.int .i64) .unit))))).1.2.2.1, (((a0.1).getD (Int.toNat ((a0.1).getD (Int.toNat a1) (Ty.dflt (.pair (.pair (.int .i64) (.pair .bool (.pair (.int .i64) (.pair .str (.pair .str (.pair (.int .i64) (.pair (.int .i64) .unit))))))) (.pair (.int .i64) (.pair (.int .i64) .unit))))).2.2.1) (Ty.dflt (.pair (.pair (.int .i64) (.pair .bool (.pair (.int .i64) (.pair .str (.pair .str (.pair (.int .i64) (.pair (.int .i64) .unit))))))) (.pair (.int .i64) (.pair (.int .i64) .unit))))).1.2.2.2.1, (((a0.1).getD (Int.toNat ((a0.1).getD (Int.toNat a1) (Ty.dflt (.pair (.pair (.int .i64) (.pair .bool (.pair (.int .i64) (.pair .str (.pair .str (.pair (.int .i64) (.pair (.int .i64) .unit))))))) (.pair (.int .i64) (.pair (.int .i64) .unit))))).2.2.1) (Ty.dflt (.pair (.pair (.int .i64) (.pair .bool (.pair (.int .i64) (.pair .str (.pair .str (.pair (.int .i64) (.pair (.int .i64) .unit))))))) (.pair (.int .i64) (.pair (.int .i64) .unit))))).1.2.2.2.2.1, (((a0.1).getD (Int.toNat ((a0.1).getD (Int.toNat a1) (Ty.dflt (.pair (.pair (.int .i64) (.pair .bool (.pair (.int .i64) (.pair .str (.pair .str (.pair (.int .i64) (.pair (.int .i64) .unit))))))) (.pair (.int .i64) (.pair (.int .i64) .unit))))).2.2.1) (Ty.dflt (.pair (.pair (.int .i64) (.pair .bool (.pair (.int .i64) (.pair .str (.pair .str (.pair (.int .i64) (.pair (.int .i64) .unit))))))) (.pair (.int .i64) (.pair (.int .i64) .unit))))).1.2.2.2.2.2.1, (((a0.1).length : Int), ()))))))), ((a0.1).getD (Int.toNat ((a0.1).getD (Int.toNat a1) (Ty.dflt (.pair (.pair (.int .i64) (.pair .bool (.pair (.int .i64) (.pair .str (.pair .str (.pair (.int .i64) (.pair (.int .i64) .unit))))))) (.pair (.int .i64) (.pair (.int .i64) .unit))))).2.2.1) (Ty.dflt (.pair (.pair (.int .i64) (.pair .bool (.pair (.int .i64) (.pair .str (.pair .str (.pair (.int .i64) (.pair (.int .i64) .unit))))))) (.pair (.int .i64) (.pair (.int .i64) .unit))))).2))).set (Int.toNat a1) (((((a0.1).set (Int.toNat ((a0.1).getD (Int.toNat a1) (Ty.dflt (.pair (.pair (.int .i64) (.pair .bool (.pair (.int .i64) (.pair .str (.pair .str (.pair (.int .i64) (.pair (.int .i64) .unit))))))) (.pair (.int .i64) (.pair (.int .i64) .unit))))).2.2.1) ((((a0.1).getD (Int.toNat ((a0.1).getD (Int.toNat a1) (Ty.dflt (.pair (.pair (.int .i64) (.pair .bool (.pair (.int .i64) (.pair .str (.pair .str (.pair (.int .i64) (.pair (.int .i64) .unit))))))) (.pair (.int .i64) (.pair (.int .i64) .unit))))).2.2.1) (Ty.dflt (.pair (.pair (.int .i64) (.pair .bool (.pair (.int .i64) (.pair .str (.pair .str (.pair (.int .i64) (.pair (.int .i64) .unit))))))) (.pair (.int .i64) (.pair (.int .i64) .unit))))).1.1, (((a0.1).getD (Int.toNat ((a0.1).getD (Int.toNat a1) (Ty.dflt (.pair (.pair (.int .i64) (.pair .bool (.pair (.int .i64) (.pair .str (.pair .str (.pair (.int .i64) (.pair (.int .i64) .unit))))))) (.pair (.int .i64) (.pair (.int .i64) .unit))))).2.2.1) (Ty.dflt (.pair (.pair (.int .i64) (.pair .bool (.pair (.int .i64) (.pair .str (.pair .str (.pair (.int .i64) (.pair (.int .i64) .unit))))))) (.pair (.int .i64) (.pair (.int .i64) .unit))))).1.2.1, (((a0.1).getD (Int.toNat ((a0.1).getD (Int.toNat a1) (Ty.dflt (.pair (.pair (.int .i64) (.pair .bool (.pair (.int .i64) (.pair .str (.pair .str (.pair (.int .i64) (.pair (.int .i64) .unit))))))) (.pair (.int .i64) (.pair (.int .i64) .unit))))).2.2.1) (Ty.dflt (.pair (.pair (.int .i64) (.pair .bool (.pair (.int .i64) (.pair .str (.pair .str (.pair (.int .i64) (.pair (.int .i64) .unit))))))) (.pair (.int .i64) (.pair (.int .i64) .unit))))).1.2.2.1, (((a0.1).getD (Int.toNat ((a0.1).getD (Int.toNat a1) (Ty.dflt (.pair (.pair (.int .i64) (.pair .bool (.pair (.int .i64) (.pair .str (.pair .str (.pair (.int .i64) (.pair (.int .i64) .unit))))))) (.pair (.int .i64) (.pair (.int .i64) .unit))))).2.2.1) (Ty.dflt (.pair (.pair (.int .i64) (.pair .bool (.pair (.int .i64) (.pair .str (.pair .str (.pair (.int .i64) (.pair (.int .i64) .unit))))))) (.pair (.int .i64) (.pair (.int .i64) .unit))))).1.2.2.2.1, (((a0.1).getD (Int.toNat ((a0.1).getD (Int.toNat a1) (Ty.dflt (.pair (.pair (.int .i64) (.pair .bool (.pair (.int .i64) (.pair .str (.pair .str (.pair (.int .i64) (.pair (.int .i64) .unit))))))) (.pair (.int .i64) (.pair (.int .i64) .unit))))).2.2.1) (Ty.dflt (.pair (.pair (.int .i64) (.pair .bool (.pair (.int .i64) (.pair .str (.pair .str (.pair (.int .i64) (.pair (.int .i64) .unit))))))) (.pair (.int .i64) (.pair (.int .i64) .unit))))).1.2.2.2.2.1, (((a0.1).getD (Int.toNat ((a0.1).getD (Int.toNat a1) (Ty.dflt (.pair (.pair (.int .i64) (.pair .bool (.pair (.int .i64) (.pair .str (.pair .str (.pair (.int .i64) (.pair (.int .i64) .unit))))))) (.pair (.int .i64) (.pair (.int .i64) .unit))))).2.2.1) (Ty.dflt (.pair (.pair (.int .i64) (.pair .bool (.pair (.int .i64) (.pair .str (.pair .str (.pair (.int .i64) (.pair (.int .i64) .unit))))))) (.pair (.int .i64) (.pair (.int .i64) .unit))))).1.2.2.2.2.2.1, (((a0.1).length : Int), ()))))))), ((a0.1).getD (Int.toNat ((a0.1).getD (Int.toNat a1) (Ty.dflt (.pair (.pair (.int .i64) (.pair .bool (.pair (.int .i64) (.pair .str (.pair .str (.pair (.int .i64) (.pair (.int .i64) .unit))))))) (.pair (.int .i64) (.pair (.int .i64) .unit))))).2.2.1) (Ty.dflt (.pair (.pair (.int .i64) (.pair .bool (.pair (.int .i64) (.pair .str (.pair .str (.pair (.int .i64) (.pair (.int .i64) .unit))))))) (.pair (.int .i64) (.pair (.int .i64) .unit))))).2))).getD (Int.toNat a1) (Ty.dflt (.pair (.pair (.int .i64) (.pair .bool (.pair (.int .i64) (.pair .str (.pair .str (.pair (.int .i64) (.pair (.int .i64) .unit))))))) (.pair (.int .i64) (.pair (.int .i64) .unit))))).1, (((((a0.1).set (Int.toNat ((a0.1).getD (Int.toNat a1) (Ty.dflt (.pair (.pair (.int .i64) (.pair .bool (.pair (.int .i64) (.pair .str (.pair .str (.pair (.int .i64) (.pair (.int .i64) .unit))))))) (.pair (.int .i64) (.pair (.int .i64) .unit))))).2.2.1) ((((a0.1).getD (Int.toNat ((a0.1).getD (Int.toNat a1) (Ty.dflt (.pair (.pair (.int .i64) (.pair .bool (.pair (.int .i64) (.pair .str (.pair .str (.pair (.int .i64) (.pair (.int .i64) .unit))))))) (.pair (.int .i64) (.pair (.int .i64) .unit))))).2.2.1) (Ty.dflt (.pair (.pair (.int .i64) (.pair .bool (.pair (.int .i64) (.pair .str (.pair .str (.pair (.int .i64) (.pair (.int .i64) .unit))))))) (.pair (.int .i64) (.pair (.int .i64) .unit))))).1.1, (((a0.1).getD (Int.toNat ((a0.1).getD (Int.toNat a1) (Ty.dflt (.pair (.pair (.int .i64) (.pair .bool (.pair (.int .i64) (.pair .str (.pair .str (.pair (.int .i64) (.pair (.int .i64) .unit))))))) (.pair (.int .i64) (.pair (.int .i64) .unit))))).2.2.1) (Ty.dflt (.pair (.pair (.int .i64) (.pair .bool (.pair (.int .i64) (.pair .str (.pair .str (.pair (.int .i64) (.pair (.int .i64) .unit))))))) (.pair (.int .i64) (.pair (.int .i64) .unit))))).1.2.1, (((a0.1).getD (Int.toNat ((a0.1).getD (Int.toNat a1) (Ty.dflt (.pair (.pair (.int .i64) (.pair .bool (.pair (.int .i64) (.pair .str (.pair .str (.pair (.int .i64) (.pair (.int .i64) .unit))))))) (.pair (.int .i64) (.pair (.int .i64) .unit))))).2.2.1) (Ty.dflt (.pair (.pair (.int .i64) (.pair .bool (.pair (.int .i64) (.pair .str (.pair .str (.pair (.int .i64) (.pair (.int .i64) .unit))))))) (.pair (.int .i64) (.pair (.int .i64) .unit))))).1.2.2.1, (((a0.1).getD (Int.toNat ((a0.1).getD (Int.toNat a1) (Ty.dflt (.pair (.pair (.int .i64) (.pair .bool (.pair (.int .i64) (.pair .str (.pair .str (.pair (.int .i64) (.pair (.int .i64) .unit))))))) (.pair (.int .i64) (.pair (.int .i64) .unit))))).2.2.1) (Ty.dflt (.pair (.pair (.int .i64) (.pair .bool (.pair (.int .i64) (.pair .str (.pair .str (.pair (.int .i64) (.pair (.int .i64) .unit))))))) (.pair (.int .i64) (.pair (.int .i64) .unit))))).1.2.2.2.1, (((a0.1).getD (Int.toNat ((a0.1).getD (Int.toNat a1) (Ty.dflt (.pair (.pair (.int .i64) (.pair .bool (.pair (.int .i64) (.pair .str (.pair .str (.pair (.int .i64) (.pair (.int .i64) .unit))))))) (.pair (.int .i64) (.pair (.int .i64) .unit))))).2.2.1) (Ty.dflt (.pair (.pair (.int .i64) (.pair .bool (.pair (.int .i64) (.pair .str (.pair .str (.pair (.int .i64) (.pair (.int .i64) .unit))))))) (.pair (.int .i64) (.pair (.int .i64) .unit))))).1.2.2.2.2.1, (((a0.1).getD (Int.toNat ((a0.1).getD (Int.toNat a1) (Ty.dflt (.pair (.pair (.int .i64) (.pair .bool (.pair (.int .i64) (.pair .str (.pair .str (.pair (.int .i64) (.pair (.int .i64) .unit))))))) (.pair (.int .i64) (.pair (.int .i64) .unit))))).2.2.1) (Ty.dflt (.pair (.pair (.int .i64) (.pair .bool (.pair (.int .i64) (.pair .str (.pair .str (.pair (.int .i64) (.pair (.int .i64) .unit))))))) (.pair (.int .i64) (.pair (.int .i64) .unit))))).1.2.2.2.2.2.1, (((a0.1).length : Int), ()))))))), ((a0.1).getD (Int.toNat ((a0.1).getD (Int.toNat a1) (Ty.dflt (.pair (.pair (.int .i64) (.pair .bool (.pair (.int .i64) (.pair .str (.pair .str (.pair (.int .i64) (.pair (.int .i64) .unit))))))) (.pair (.int .i64) (.pair (.int .i64) .unit))))).2.2.1) (Ty.dflt (.pair (.pair (.int .i64) (.pair .bool (.pair (.int .i64) (.pair .str (.pair .str (.pair (.int .i64) (.pair (.int .i64) .unit))))))) (.pair (.int .i64) (.pair (.int .i64) .unit))))).2))).getD (Int.toNat a1) (Ty.dflt (.pair (.pair (.int .i64) (.pair .bool (.pair (.int .i64) (.pair .str (.pair .str (.pair (.int .i64) (.pair (.int .i64) .unit))))))) (.pair (.int .i64) (.pair (.int .i64) .unit))))).2.1, (((a0.1).length : Int), ())))) ++ ([(r5, (a1, ((-1), ())))] : List ((Int × (Bool × (Int × (List UInt8 × (List UInt8 × (Int × (Int × Unit))))))) × (Int × (Int × Unit))))), ()), ((a0.1).length : Int))
              else none)
              | none => none)
              else none)))
          | none => none)))
      else none)))

noncomputable def lay11 : Lay := layOf layL [(24, .inl)]
theorem lay11_ok : LayOK Try.prog lay11 := layOf_ok layAll (by
  intro p hp
  simp only [List.mem_cons, List.not_mem_nil, or_false] at hp
  rcases hp with rfl
  · exact trivial) layEq

noncomputable def c11 : Code := Try.f11.body.getD .skip

noncomputable def G11 (n : Nat) : Ctx (Res [.pair (.slice (.pair (.pair (.int .i64) (.pair .bool (.pair (.int .i64) (.pair .str (.pair .str (.pair (.int .i64) (.pair (.int .i64) .unit))))))) (.pair (.int .i64) (.pair (.int .i64) .unit)))) .unit, .int .i64]) := ent 25 [.int .i64] [.bool] (fun x => F25 n x) (ent 26 [.pair (.int .i64) (.pair .bool (.pair (.int .i64) (.pair .str (.pair .str (.pair (.int .i64) (.pair (.int .i64) .unit)))))), .int .i64] [.pair (.int .i64) (.pair .bool (.pair (.int .i64) (.pair .str (.pair .str (.pair (.int .i64) (.pair (.int .i64) .unit))))))] (fun x => F26 n x.1 x.2) (noFns))

theorem GO11 (n : Nat) : CtxOK Try.prog lay11 (G11 n) := ent_ok (T25 n) (fun _ _ h => h) (ent_ok (T26 n) (fun _ _ h => h) (noFns_ok))

noncomputable def tab11 : Tab := tabOf [(24, (Try.f24.body.getD .skip, Try.f24.ntmps, [.tmp 4]))]
theorem tab11_ok : TabOK Try.prog tab11 := tabOf_ok (by
  refine .cons (by kernel_rfl : Try.prog.funcs[24]? = some Try.f24) (by kernel_rfl) rfl (by kernel_rfl) (by kernel_rfl) ?_
  exact .nil)

noncomputable def P11 (n : Nat) : Pl (Res [.pair (.slice (.pair (.pair (.int .i64) (.pair .bool (.pair (.int .i64) (.pair .str (.pair .str (.pair (.int .i64) (.pair (.int .i64) .unit))))))) (.pair (.int .i64) (.pair (.int .i64) .unit)))) .unit, .int .i64]) :=
  .leaf

theorem K11 (n : Nat) : PlOK (G11 n) (mkInl tab11 (G11 n) lay11 2) lay11 99 (P11 n) c11 (fnK lay11 [.tmp 6] [.box (.pair (.vec 57 (.pair (.pair (.int .i64) (.pair .bool (.pair (.int .i64) (.pair .str (.pair .str (.pair (.int .i64) (.pair (.int .i64) .unit))))))) (.pair (.int .i64) (.pair (.int .i64) .unit)))) .unit), .val (.int .i64), .val (.pair (.int .i64) (.pair .bool (.pair (.int .i64) (.pair .str (.pair .str (.pair (.int .i64) (.pair (.int .i64) .unit)))))))] [.val (.int .i64)] [.pair (.slice (.pair (.pair (.int .i64) (.pair .bool (.pair (.int .i64) (.pair .str (.pair .str (.pair (.int .i64) (.pair (.int .i64) .unit))))))) (.pair (.int .i64) (.pair (.int .i64) .unit)))) .unit, .int .i64]) :=
  trivial

theorem E11 (n : Nat) (a0 : (List ((Int × (Bool × (Int × (List UInt8 × (List UInt8 × (Int × (Int × Unit))))))) × (Int × (Int × Unit))) × Unit)) (a1 : Int) (a2 : (Int × (Bool × (Int × (List UInt8 × (List UInt8 × (Int × (Int × Unit)))))))) : F11 n a0 a1 a2 = fnE [.box (.pair (.vec 57 (.pair (.pair (.int .i64) (.pair .bool (.pair (.int .i64) (.pair .str (.pair .str (.pair (.int .i64) (.pair (.int .i64) .unit))))))) (.pair (.int .i64) (.pair (.int .i64) .unit)))) .unit), .val (.int .i64), .val (.pair (.int .i64) (.pair .bool (.pair (.int .i64) (.pair .str (.pair .str (.pair (.int .i64) (.pair (.int .i64) .unit)))))))] (argDs [.pair (.slice (.pair (.pair (.int .i64) (.pair .bool (.pair (.int .i64) (.pair .str (.pair .str (.pair (.int .i64) (.pair (.int .i64) .unit))))))) (.pair (.int .i64) (.pair (.int .i64) .unit)))) .unit, .int .i64, .pair (.int .i64) (.pair .bool (.pair (.int .i64) (.pair .str (.pair .str (.pair (.int .i64) (.pair (.int .i64) .unit))))))] (a0, a1, a2)) (fun st => ev (G11 n) (mkInl tab11 (G11 n) lay11 2) lay11 99 c11 (P11 n) st (fnK lay11 [.tmp 6] [.box (.pair (.vec 57 (.pair (.pair (.int .i64) (.pair .bool (.pair (.int .i64) (.pair .str (.pair .str (.pair (.int .i64) (.pair (.int .i64) .unit))))))) (.pair (.int .i64) (.pair (.int .i64) .unit)))) .unit), .val (.int .i64), .val (.pair (.int .i64) (.pair .bool (.pair (.int .i64) (.pair .str (.pair .str (.pair (.int .i64) (.pair (.int .i64) .unit)))))))] [.val (.int .i64)] [.pair (.slice (.pair (.pair (.int .i64) (.pair .bool (.pair (.int .i64) (.pair .str (.pair .str (.pair (.int .i64) (.pair (.int .i64) .unit))))))) (.pair (.int .i64) (.pair (.int .i64) .unit)))) .unit, .int .i64])) := by kernel_rfl

theorem T11 (n : Nat) : ToldIo Try.prog 11 [.box (.pair (.vec 57 (.pair (.pair (.int .i64) (.pair .bool (.pair (.int .i64) (.pair .str (.pair .str (.pair (.int .i64) (.pair (.int .i64) .unit))))))) (.pair (.int .i64) (.pair (.int .i64) .unit)))) .unit), .val (.int .i64), .val (.pair (.int .i64) (.pair .bool (.pair (.int .i64) (.pair .str (.pair .str (.pair (.int .i64) (.pair (.int .i64) .unit)))))))] [.val (.int .i64)] [.pair (.slice (.pair (.pair (.int .i64) (.pair .bool (.pair (.int .i64) (.pair .str (.pair .str (.pair (.int .i64) (.pair (.int .i64) .unit))))))) (.pair (.int .i64) (.pair (.int .i64) .unit)))) .unit, .int .i64, .pair (.int .i64) (.pair .bool (.pair (.int .i64) (.pair .str (.pair .str (.pair (.int .i64) (.pair (.int .i64) .unit))))))] [.pair (.slice (.pair (.pair (.int .i64) (.pair .bool (.pair (.int .i64) (.pair .str (.pair .str (.pair (.int .i64) (.pair (.int .i64) .unit))))))) (.pair (.int .i64) (.pair (.int .i64) .unit)))) .unit, .int .i64] (fun x => F11 n x.1 x.2.1 x.2.2) := by
  rintro ⟨a0, a1, a2⟩ r h
  exact fn_sound lay11_ok mixed (rvs := [.tmp 6]) (by kernel_rfl : Try.prog.funcs[11]? = some Try.f11) (by kernel_rfl : Try.f11.body = some c11) (by kernel_rfl) (by kernel_rfl) (by kernel_rfl) (GO11 n) (mkInl_ok tab11_ok (GO11 n) lay11_ok mixed 2) (K11 n) ((E11 n a0 a1 a2).symm.trans h)

/-! ### (*orthoepy/orthoepyref18.Arena).Add -/

def F12j3 (n : Nat) (t1 : Int) (t8 : Int) (b7_0 : Int) (b7_1 : Bool) (b7_2 : Int) (b7_3 : List UInt8) (b7_4 : List UInt8) (b7_5 : Int) (b7_6 : Int) (b100000_0 : List (Int × (Bool × (Int × (List UInt8 × (List UInt8 × (Int × (Int × Unit)))))))) (b100000_1 : List Int) (b100000_2 : List Int) : Option ((List (Int × (Bool × (Int × (List UInt8 × (List UInt8 × (Int × (Int × Unit))))))) × (List Int × (List Int × Unit))) × Int) :=
  (bif (decide (((b100000_0).length + (([(b7_0, (b7_1, (b7_2, (b7_3, (b7_4, (b7_5, (b7_6, ())))))))] : List (Int × (Bool × (Int × (List UInt8 × (List UInt8 × (Int × (Int × Unit))))))))).length) * 72 ≤ maxRoom) && decide ((b100000_0).length + (([(b7_0, (b7_1, (b7_2, (b7_3, (b7_4, (b7_5, (b7_6, ())))))))] : List (Int × (Bool × (Int × (List UInt8 × (List UInt8 × (Int × (Int × Unit))))))))).length ≤ maxRoom)) then
  (bif (decide (((b100000_1).length + (([t1] : List Int)).length) * 8 ≤ maxRoom) && decide ((b100000_1).length + (([t1] : List Int)).length ≤ maxRoom)) then
  (bif (decide (((b100000_2).length + (([(-1)] : List Int)).length) * 8 ≤ maxRoom) && decide ((b100000_2).length + (([(-1)] : List Int)).length ≤ maxRoom)) then
  some (((b100000_0 ++ ([(b7_0, (b7_1, (b7_2, (b7_3, (b7_4, (b7_5, (b7_6, ())))))))] : List (Int × (Bool × (Int × (List UInt8 × (List UInt8 × (Int × (Int × Unit))))))))), ((b100000_1 ++ ([t1] : List Int)), ((b100000_2 ++ ([(-1)] : List Int)), ()))), t8)
  else none)
  else none)
  else none)

def F12j4 (n : Nat) (t1 : Int) (t8 : Int) (b7_0 : Int) (b7_1 : Bool) (b7_2 : Int) (b7_3 : List UInt8) (b7_4 : List UInt8) (b7_5 : Int) (b7_6 : Int) (b100000_0 : List (Int × (Bool × (Int × (List UInt8 × (List UInt8 × (Int × (Int × Unit)))))))) (b100000_1 : List Int) (b100000_2 : List Int) : Option ((List (Int × (Bool × (Int × (List UInt8 × (List UInt8 × (Int × (Int × Unit))))))) × (List Int × (List Int × Unit))) × Int) :=
  (bif inB t1 (b100000_0).length then
  (bif (decide (((b100000_0).getD (Int.toNat t1) (Ty.dflt (.pair (.int .i64) (.pair .bool (.pair (.int .i64) (.pair .str (.pair .str (.pair (.int .i64) (.pair (.int .i64) .unit))))))))).2.2.2.2.2.1 < 0)) then
    (bif inB t1 (b100000_0).length then
    (bif inB t1 (b100000_2).length then
    F12j3 n t1 t8 b7_0 b7_1 b7_2 b7_3 b7_4 b7_5 b7_6 ((b100000_0).set (Int.toNat t1) (((b100000_0).getD (Int.toNat t1) (Ty.dflt (.pair (.int .i64) (.pair .bool (.pair (.int .i64) (.pair .str (.pair .str (.pair (.int .i64) (.pair (.int .i64) .unit))))))))).1, (((b100000_0).getD (Int.toNat t1) (Ty.dflt (.pair (.int .i64) (.pair .bool (.pair (.int .i64) (.pair .str (.pair .str (.pair (.int .i64) (.pair (.int .i64) .unit))))))))).2.1, (((b100000_0).getD (Int.toNat t1) (Ty.dflt (.pair (.int .i64) (.pair .bool (.pair (.int .i64) (.pair .str (.pair .str (.pair (.int .i64) (.pair (.int .i64) .unit))))))))).2.2.1, (((b100000_0).getD (Int.toNat t1) (Ty.dflt (.pair (.int .i64) (.pair .bool (.pair (.int .i64) (.pair .str (.pair .str (.pair (.int .i64) (.pair (.int .i64) .unit))))))))).2.2.2.1, (((b100000_0).getD (Int.toNat t1) (Ty.dflt (.pair (.int .i64) (.pair .bool (.pair (.int .i64) (.pair .str (.pair .str (.pair (.int .i64) (.pair (.int .i64) .unit))))))))).2.2.2.2.1, (t8, ((b100000_0).getD (Int.toNat t1) (Ty.dflt (.pair (.int .i64) (.pair .bool (.pair (.int .i64) (.pair .str (.pair .str (.pair (.int .i64) (.pair (.int .i64) .unit))))))))).2.2.2.2.2.2))))))) b100000_1 ((b100000_2).set (Int.toNat t1) t8)
    else none)
    else none)
  else
    (bif inB t1 (b100000_2).length then
    (bif inB ((b100000_2).getD (Int.toNat t1) (Ty.dflt (.int .i64))) (b100000_0).length then
    (bif inB t1 (b100000_2).length then
    F12j3 n t1 t8 b7_0 b7_1 b7_2 b7_3 b7_4 b7_5 b7_6 ((b100000_0).set (Int.toNat ((b100000_2).getD (Int.toNat t1) (Ty.dflt (.int .i64)))) (((b100000_0).getD (Int.toNat ((b100000_2).getD (Int.toNat t1) (Ty.dflt (.int .i64)))) (Ty.dflt (.pair (.int .i64) (.pair .bool (.pair (.int .i64) (.pair .str (.pair .str (.pair (.int .i64) (.pair (.int .i64) .unit))))))))).1, (((b100000_0).getD (Int.toNat ((b100000_2).getD (Int.toNat t1) (Ty.dflt (.int .i64)))) (Ty.dflt (.pair (.int .i64) (.pair .bool (.pair (.int .i64) (.pair .str (.pair .str (.pair (.int .i64) (.pair (.int .i64) .unit))))))))).2.1, (((b100000_0).getD (Int.toNat ((b100000_2).getD (Int.toNat t1) (Ty.dflt (.int .i64)))) (Ty.dflt (.pair (.int .i64) (.pair .bool (.pair (.int .i64) (.pair .str (.pair .str (.pair (.int .i64) (.pair (.int .i64) .unit))))))))).2.2.1, (((b100000_0).getD (Int.toNat ((b100000_2).getD (Int.toNat t1) (Ty.dflt (.int .i64)))) (Ty.dflt (.pair (.int .i64) (.pair .bool (.pair (.int .i64) (.pair .str (.pair .str (.pair (.int .i64) (.pair (.int .i64) .unit))))))))).2.2.2.1, (((b100000_0).getD (Int.toNat ((b100000_2).getD (Int.toNat t1) (Ty.dflt (.int .i64)))) (Ty.dflt (.pair (.int .i64) (.pair .bool (.pair (.int .i64) (.pair .str (.pair .str (.pair (.int .i64) (.pair (.int .i64) .unit))))))))).2.2.2.2.1, (((b100000_0).getD (Int.toNat ((b100000_2).getD (Int.toNat t1) (Ty.dflt (.int .i64)))) (Ty.dflt (.pair (.int .i64) (.pair .bool (.pair (.int .i64) (.pair .str (.pair .str (.pair (.int .i64) (.pair (.int .i64) .unit))))))))).2.2.2.2.2.1, (t8, ())))))))) b100000_1 ((b100000_2).set (Int.toNat t1) t8)
    else none)
    else none)
    else none))
  else none)

def F12j2 (n : Nat) (t1 : Int) (b5_0 : Int) (b5_1 : Bool) (b5_2 : Int) (b5_3 : List UInt8) (b5_4 : List UInt8) (b5_5 : Int) (b5_6 : Int) (b7_0 : Int) (b7_1 : Bool) (b7_2 : Int) (b7_3 : List UInt8) (b7_4 : List UInt8) (b7_5 : Int) (b7_6 : Int) (b100000_0 : List (Int × (Bool × (Int × (List UInt8 × (List UInt8 × (Int × (Int × Unit)))))))) (b100000_1 : List Int) (b100000_2 : List Int) : Option ((List (Int × (Bool × (Int × (List UInt8 × (List UInt8 × (Int × (Int × Unit))))))) × (List Int × (List Int × Unit))) × Int) :=
  (bif (decide (t1 ≥ 0)) then
    (bif inB t1 (b100000_0).length then
    (bif (((b100000_0).getD (Int.toNat t1) (Ty.dflt (.pair (.int .i64) (.pair .bool (.pair (.int .i64) (.pair .str (.pair .str (.pair (.int .i64) (.pair (.int .i64) .unit))))))))).1 == 6) then
      F12j4 n t1 ((b100000_0).length : Int) b7_0 b7_1 b7_2 b7_3 b5_4 b7_5 b7_6 b100000_0 b100000_1 b100000_2
    else
      F12j4 n t1 ((b100000_0).length : Int) b7_0 b7_1 b7_2 b7_3 b7_4 b7_5 b7_6 b100000_0 b100000_1 b100000_2)
    else none)
  else
    F12j3 n t1 ((b100000_0).length : Int) b7_0 b7_1 b7_2 b7_3 b7_4 b7_5 b7_6 b100000_0 b100000_1 b100000_2)

def F12j1 (n : Nat) (t1 : Int) (b5_0 : Int) (b5_1 : Bool) (b5_2 : Int) (b5_3 : List UInt8) (b5_4 : List UInt8) (b5_5 : Int) (b5_6 : Int) (b100000_0 : List (Int × (Bool × (Int × (List UInt8 × (List UInt8 × (Int × (Int × Unit)))))))) (b100000_1 : List Int) (b100000_2 : List Int) : Option ((List (Int × (Bool × (Int × (List UInt8 × (List UInt8 × (Int × (Int × Unit))))))) × (List Int × (List Int × Unit))) × Int) :=
  (bif (b5_0 == 2) then
    F12j2 n t1 b5_0 b5_1 b5_2 b5_3 b5_4 b5_5 b5_6 b5_0 b5_1 0 ([] : List UInt8) ([] : List UInt8) (-1) (-1) b100000_0 b100000_1 b100000_2
  else
    (bif (b5_0 == 3) then
      F12j2 n t1 b5_0 b5_1 b5_2 b5_3 b5_4 b5_5 b5_6 b5_0 false b5_2 ([] : List UInt8) ([] : List UInt8) (-1) (-1) b100000_0 b100000_1 b100000_2
    else
      (bif (b5_0 == 4) then
        F12j2 n t1 b5_0 b5_1 b5_2 b5_3 b5_4 b5_5 b5_6 b5_0 false 0 b5_3 ([] : List UInt8) (-1) (-1) b100000_0 b100000_1 b100000_2
      else
        F12j2 n t1 b5_0 b5_1 b5_2 b5_3 b5_4 b5_5 b5_6 b5_0 false 0 ([] : List UInt8) ([] : List UInt8) (-1) (-1) b100000_0 b100000_1 b100000_2)))

def F12j0 (n : Nat) (t1 : Int) (b5_0 : Int) (b5_1 : Bool) (b5_2 : Int) (b5_3 : List UInt8) (b5_4 : List UInt8) (b5_5 : Int) (b5_6 : Int) (b100000_0 : List (Int × (Bool × (Int × (List UInt8 × (List UInt8 × (Int × (Int × Unit)))))))) (b100000_1 : List Int) (b100000_2 : List Int) : Option ((List (Int × (Bool × (Int × (List UInt8 × (List UInt8 × (Int × (Int × Unit))))))) × (List Int × (List Int × Unit))) × Int) :=
  (bif (decide (t1 ≥ 0)) then
    (bif inB t1 (b100000_0).length then
    (bif (((b100000_0).getD (Int.toNat t1) (Ty.dflt (.pair (.int .i64) (.pair .bool (.pair (.int .i64) (.pair .str (.pair .str (.pair (.int .i64) (.pair (.int .i64) .unit))))))))).1 != 5) then
      (bif inB t1 (b100000_0).length then
      (bif (((b100000_0).getD (Int.toNat t1) (Ty.dflt (.pair (.int .i64) (.pair .bool (.pair (.int .i64) (.pair .str (.pair .str (.pair (.int .i64) (.pair (.int .i64) .unit))))))))).1 != 6) then
        some ((b100000_0, (b100000_1, (b100000_2, ()))), (-1))
      else
        F12j1 n t1 b5_0 b5_1 b5_2 b5_3 b5_4 b5_5 b5_6 b100000_0 b100000_1 b100000_2)
      else none)
    else
      F12j1 n t1 b5_0 b5_1 b5_2 b5_3 b5_4 b5_5 b5_6 b100000_0 b100000_1 b100000_2)
    else none)
  else
    F12j1 n t1 b5_0 b5_1 b5_2 b5_3 b5_4 b5_5 b5_6 b100000_0 b100000_1 b100000_2)

def F12 (n : Nat) (a0 : (List (Int × (Bool × (Int × (List UInt8 × (List UInt8 × (Int × (Int × Unit))))))) × (List Int × (List Int × Unit)))) (a1 : Int) (a2 : (Int × (Bool × (Int × (List UInt8 × (List UInt8 × (Int × (Int × Unit)))))))) : Option ((List (Int × (Bool × (Int × (List UInt8 × (List UInt8 × (Int × (Int × Unit))))))) × (List Int × (List Int × Unit))) × Int) :=
  (bif (decide (a2.1 < 1)) then
    some (a0, (-1))
  else
    (bif (decide (a2.1 > 6)) then
      some (a0, (-1))
    else
      (bif (a1 == (-1)) then
        (bif (decide (((a0.1).length : Int) > 0)) then
          some (a0, (-1))
        else
          (bif (decide (a1 < (-1))) then
            some (a0, (-1))
          else
            (bif (decide (a1 ≥ ((a0.1).length : Int))) then
              some (a0, (-1))
            else
              F12j0 n a1 a2.1 a2.2.1 a2.2.2.1 a2.2.2.2.1 a2.2.2.2.2.1 a2.2.2.2.2.2.1 a2.2.2.2.2.2.2.1 a0.1 a0.2.1 a0.2.2.1)))
      else
        (bif (decide (a1 < (-1))) then
          some (a0, (-1))
        else
          (bif (decide (a1 ≥ ((a0.1).length : Int))) then
            some (a0, (-1))
          else
            F12j0 n a1 a2.1 a2.2.1 a2.2.2.1 a2.2.2.2.1 a2.2.2.2.2.1 a2.2.2.2.2.2.1 a2.2.2.2.2.2.2.1 a0.1 a0.2.1 a0.2.2.1)))))

noncomputable def c12 : Code := Try.f12.body.getD .skip

noncomputable def G12 (n : Nat) : Ctx (Res [.pair (.slice (.pair (.int .i64) (.pair .bool (.pair (.int .i64) (.pair .str (.pair .str (.pair (.int .i64) (.pair (.int .i64) .unit)))))))) (.pair (.slice (.int .i64)) (.pair (.slice (.int .i64)) .unit)), .int .i64]) := noFns

theorem GO12 (n : Nat) : CtxOK Try.prog lay0 (G12 n) := noFns_ok

noncomputable def P12 (n : Nat) : Pl (Res [.pair (.slice (.pair (.int .i64) (.pair .bool (.pair (.int .i64) (.pair .str (.pair .str (.pair (.int .i64) (.pair (.int .i64) .unit)))))))) (.pair (.slice (.int .i64)) (.pair (.slice (.int .i64)) .unit)), .int .i64]) :=
  (.two .leaf (.join [.ptr (.tmp 0) 100000 0, .val (.tmp 1) (.int .i64), .ptr (.tmp 5) 5 0, .val (.cell 5 0) (.int .i64), .val (.cell 5 1) .bool, .val (.cell 5 2) (.int .i64), .val (.cell 5 3) .str, .val (.cell 5 4) .str, .val (.cell 5 5) (.int .i64), .val (.cell 5 6) (.int .i64), .vec (.cell 100000 0) 20000000 35 (.pair (.int .i64) (.pair .bool (.pair (.int .i64) (.pair .str (.pair .str (.pair (.int .i64) (.pair (.int .i64) .unit))))))), .vec (.cell 100000 1) 20000001 3 (.int .i64), .vec (.cell 100000 2) 20000002 3 (.int .i64), .ptr (.sv 0) 100000 0, .box 5 7, .box 100000 3] (fun x => F12j0 n x.2.1 x.2.2.2.1 x.2.2.2.2.1 x.2.2.2.2.2.1 x.2.2.2.2.2.2.1 x.2.2.2.2.2.2.2.1 x.2.2.2.2.2.2.2.2.1 x.2.2.2.2.2.2.2.2.2.1 x.2.2.2.2.2.2.2.2.2.2.1 x.2.2.2.2.2.2.2.2.2.2.2.1 x.2.2.2.2.2.2.2.2.2.2.2.2.1) .leaf (.join [.ptr (.tmp 0) 100000 0, .val (.tmp 1) (.int .i64), .ptr (.tmp 5) 5 0, .val (.cell 5 0) (.int .i64), .val (.cell 5 1) .bool, .val (.cell 5 2) (.int .i64), .val (.cell 5 3) .str, .val (.cell 5 4) .str, .val (.cell 5 5) (.int .i64), .val (.cell 5 6) (.int .i64), .vec (.cell 100000 0) 20000000 35 (.pair (.int .i64) (.pair .bool (.pair (.int .i64) (.pair .str (.pair .str (.pair (.int .i64) (.pair (.int .i64) .unit))))))), .vec (.cell 100000 1) 20000001 3 (.int .i64), .vec (.cell 100000 2) 20000002 3 (.int .i64), .ptr (.sv 0) 100000 0, .box 5 7, .box 100000 3] (fun x => F12j1 n x.2.1 x.2.2.2.1 x.2.2.2.2.1 x.2.2.2.2.2.1 x.2.2.2.2.2.2.1 x.2.2.2.2.2.2.2.1 x.2.2.2.2.2.2.2.2.1 x.2.2.2.2.2.2.2.2.2.1 x.2.2.2.2.2.2.2.2.2.2.1 x.2.2.2.2.2.2.2.2.2.2.2.1 x.2.2.2.2.2.2.2.2.2.2.2.2.1) .leaf (.two .leaf (.join [.ptr (.tmp 0) 100000 0, .val (.tmp 1) (.int .i64), .ptr (.tmp 5) 5 0, .ptr (.tmp 7) 7 0, .val (.cell 5 0) (.int .i64), .val (.cell 5 1) .bool, .val (.cell 5 2) (.int .i64), .val (.cell 5 3) .str, .val (.cell 5 4) .str, .val (.cell 5 5) (.int .i64), .val (.cell 5 6) (.int .i64), .val (.cell 7 0) (.int .i64), .val (.cell 7 1) .bool, .val (.cell 7 2) (.int .i64), .val (.cell 7 3) .str, .val (.cell 7 4) .str, .val (.cell 7 5) (.int .i64), .val (.cell 7 6) (.int .i64), .vec (.cell 100000 0) 20000000 35 (.pair (.int .i64) (.pair .bool (.pair (.int .i64) (.pair .str (.pair .str (.pair (.int .i64) (.pair (.int .i64) .unit))))))), .vec (.cell 100000 1) 20000001 3 (.int .i64), .vec (.cell 100000 2) 20000002 3 (.int .i64), .ptr (.sv 0) 100000 0, .box 5 7, .box 7 7, .box 100000 3] (fun x => F12j2 n x.2.1 x.2.2.2.2.1 x.2.2.2.2.2.1 x.2.2.2.2.2.2.1 x.2.2.2.2.2.2.2.1 x.2.2.2.2.2.2.2.2.1 x.2.2.2.2.2.2.2.2.2.1 x.2.2.2.2.2.2.2.2.2.2.1 x.2.2.2.2.2.2.2.2.2.2.2.1 x.2.2.2.2.2.2.2.2.2.2.2.2.1 x.2.2.2.2.2.2.2.2.2.2.2.2.2.1 x.2.2.2.2.2.2.2.2.2.2.2.2.2.2.1 x.2.2.2.2.2.2.2.2.2.2.2.2.2.2.2.1 x.2.2.2.2.2.2.2.2.2.2.2.2.2.2.2.2.1 x.2.2.2.2.2.2.2.2.2.2.2.2.2.2.2.2.2.1 x.2.2.2.2.2.2.2.2.2.2.2.2.2.2.2.2.2.2.1 x.2.2.2.2.2.2.2.2.2.2.2.2.2.2.2.2.2.2.2.1 x.2.2.2.2.2.2.2.2.2.2.2.2.2.2.2.2.2.2.2.2.1) .leaf (.two .leaf (.join [.ptr (.tmp 0) 100000 0, .val (.tmp 1) (.int .i64), .ptr (.tmp 7) 7 0, .val (.tmp 8) (.int .i64), .val (.cell 7 0) (.int .i64), .val (.cell 7 1) .bool, .val (.cell 7 2) (.int .i64), .val (.cell 7 3) .str, .val (.cell 7 4) .str, .val (.cell 7 5) (.int .i64), .val (.cell 7 6) (.int .i64), .vec (.cell 100000 0) 20000000 35 (.pair (.int .i64) (.pair .bool (.pair (.int .i64) (.pair .str (.pair .str (.pair (.int .i64) (.pair (.int .i64) .unit))))))), .vec (.cell 100000 1) 20000001 3 (.int .i64), .vec (.cell 100000 2) 20000002 3 (.int .i64), .ptr (.sv 0) 100000 0, .box 7 7, .box 100000 3] (fun x => F12j3 n x.2.1 x.2.2.2.1 x.2.2.2.2.1 x.2.2.2.2.2.1 x.2.2.2.2.2.2.1 x.2.2.2.2.2.2.2.1 x.2.2.2.2.2.2.2.2.1 x.2.2.2.2.2.2.2.2.2.1 x.2.2.2.2.2.2.2.2.2.2.1 x.2.2.2.2.2.2.2.2.2.2.2.1 x.2.2.2.2.2.2.2.2.2.2.2.2.1 x.2.2.2.2.2.2.2.2.2.2.2.2.2.1) (.two .leaf (.two (.join [.ptr (.tmp 0) 100000 0, .val (.tmp 1) (.int .i64), .ptr (.tmp 7) 7 0, .val (.tmp 8) (.int .i64), .val (.cell 7 0) (.int .i64), .val (.cell 7 1) .bool, .val (.cell 7 2) (.int .i64), .val (.cell 7 3) .str, .val (.cell 7 4) .str, .val (.cell 7 5) (.int .i64), .val (.cell 7 6) (.int .i64), .vec (.cell 100000 0) 20000000 35 (.pair (.int .i64) (.pair .bool (.pair (.int .i64) (.pair .str (.pair .str (.pair (.int .i64) (.pair (.int .i64) .unit))))))), .vec (.cell 100000 1) 20000001 3 (.int .i64), .vec (.cell 100000 2) 20000002 3 (.int .i64), .ptr (.sv 0) 100000 0, .box 7 7, .box 100000 3] (fun x => F12j4 n x.2.1 x.2.2.2.1 x.2.2.2.2.1 x.2.2.2.2.2.1 x.2.2.2.2.2.2.1 x.2.2.2.2.2.2.2.1 x.2.2.2.2.2.2.2.2.1 x.2.2.2.2.2.2.2.2.2.1 x.2.2.2.2.2.2.2.2.2.2.1 x.2.2.2.2.2.2.2.2.2.2.2.1 x.2.2.2.2.2.2.2.2.2.2.2.2.1 x.2.2.2.2.2.2.2.2.2.2.2.2.2.1) .leaf .leaf) .leaf)) .leaf)))))))

theorem K12 (n : Nat) : PlOK (G12 n) noInl lay0 173 (P12 n) c12 (fnK lay0 [.tmp 6] [.box (.pair (.vec 35 (.pair (.int .i64) (.pair .bool (.pair (.int .i64) (.pair .str (.pair .str (.pair (.int .i64) (.pair (.int .i64) .unit)))))))) (.pair (.vec 3 (.int .i64)) (.pair (.vec 3 (.int .i64)) .unit))), .val (.int .i64), .val (.pair (.int .i64) (.pair .bool (.pair (.int .i64) (.pair .str (.pair .str (.pair (.int .i64) (.pair (.int .i64) .unit)))))))] [.val (.int .i64)] [.pair (.slice (.pair (.int .i64) (.pair .bool (.pair (.int .i64) (.pair .str (.pair .str (.pair (.int .i64) (.pair (.int .i64) .unit)))))))) (.pair (.slice (.int .i64)) (.pair (.slice (.int .i64)) .unit)), .int .i64]) :=
  ⟨trivial, ⟨by kernel_rfl, fun x => by kernel_rfl, trivial, ⟨by kernel_rfl, fun x => by kernel_rfl, trivial, ⟨trivial, ⟨by kernel_rfl, fun x => by kernel_rfl, trivial, ⟨trivial, ⟨by kernel_rfl, fun x => by kernel_rfl, ⟨trivial, ⟨⟨by kernel_rfl, fun x => by kernel_rfl, trivial, trivial⟩, trivial⟩⟩, trivial⟩⟩⟩⟩⟩⟩⟩

theorem E12 (n : Nat) (a0 : (List (Int × (Bool × (Int × (List UInt8 × (List UInt8 × (Int × (Int × Unit))))))) × (List Int × (List Int × Unit)))) (a1 : Int) (a2 : (Int × (Bool × (Int × (List UInt8 × (List UInt8 × (Int × (Int × Unit)))))))) : F12 n a0 a1 a2 = fnE [.box (.pair (.vec 35 (.pair (.int .i64) (.pair .bool (.pair (.int .i64) (.pair .str (.pair .str (.pair (.int .i64) (.pair (.int .i64) .unit)))))))) (.pair (.vec 3 (.int .i64)) (.pair (.vec 3 (.int .i64)) .unit))), .val (.int .i64), .val (.pair (.int .i64) (.pair .bool (.pair (.int .i64) (.pair .str (.pair .str (.pair (.int .i64) (.pair (.int .i64) .unit)))))))] (argDs [.pair (.slice (.pair (.int .i64) (.pair .bool (.pair (.int .i64) (.pair .str (.pair .str (.pair (.int .i64) (.pair (.int .i64) .unit)))))))) (.pair (.slice (.int .i64)) (.pair (.slice (.int .i64)) .unit)), .int .i64, .pair (.int .i64) (.pair .bool (.pair (.int .i64) (.pair .str (.pair .str (.pair (.int .i64) (.pair (.int .i64) .unit))))))] (a0, a1, a2)) (fun st => ev (G12 n) noInl lay0 173 c12 (P12 n) st (fnK lay0 [.tmp 6] [.box (.pair (.vec 35 (.pair (.int .i64) (.pair .bool (.pair (.int .i64) (.pair .str (.pair .str (.pair (.int .i64) (.pair (.int .i64) .unit)))))))) (.pair (.vec 3 (.int .i64)) (.pair (.vec 3 (.int .i64)) .unit))), .val (.int .i64), .val (.pair (.int .i64) (.pair .bool (.pair (.int .i64) (.pair .str (.pair .str (.pair (.int .i64) (.pair (.int .i64) .unit)))))))] [.val (.int .i64)] [.pair (.slice (.pair (.int .i64) (.pair .bool (.pair (.int .i64) (.pair .str (.pair .str (.pair (.int .i64) (.pair (.int .i64) .unit)))))))) (.pair (.slice (.int .i64)) (.pair (.slice (.int .i64)) .unit)), .int .i64])) := by kernel_rfl

theorem T12 (n : Nat) : ToldIo Try.prog 12 [.box (.pair (.vec 35 (.pair (.int .i64) (.pair .bool (.pair (.int .i64) (.pair .str (.pair .str (.pair (.int .i64) (.pair (.int .i64) .unit)))))))) (.pair (.vec 3 (.int .i64)) (.pair (.vec 3 (.int .i64)) .unit))), .val (.int .i64), .val (.pair (.int .i64) (.pair .bool (.pair (.int .i64) (.pair .str (.pair .str (.pair (.int .i64) (.pair (.int .i64) .unit)))))))] [.val (.int .i64)] [.pair (.slice (.pair (.int .i64) (.pair .bool (.pair (.int .i64) (.pair .str (.pair .str (.pair (.int .i64) (.pair (.int .i64) .unit)))))))) (.pair (.slice (.int .i64)) (.pair (.slice (.int .i64)) .unit)), .int .i64, .pair (.int .i64) (.pair .bool (.pair (.int .i64) (.pair .str (.pair .str (.pair (.int .i64) (.pair (.int .i64) .unit))))))] [.pair (.slice (.pair (.int .i64) (.pair .bool (.pair (.int .i64) (.pair .str (.pair .str (.pair (.int .i64) (.pair (.int .i64) .unit)))))))) (.pair (.slice (.int .i64)) (.pair (.slice (.int .i64)) .unit)), .int .i64] (fun x => F12 n x.1 x.2.1 x.2.2) := by
  rintro ⟨a0, a1, a2⟩ r h
  exact fn_sound lay0_ok mixed (rvs := [.tmp 6]) (by kernel_rfl : Try.prog.funcs[12]? = some Try.f12) (by kernel_rfl : Try.f12.body = some c12) (by kernel_rfl) (by kernel_rfl) (by kernel_rfl) (GO12 n) noInl_ok (K12 n) ((E12 n a0 a1 a2).symm.trans h)

/-! ### orthoepy/orthoepylaw00.Place -/

def F10 (n : Nat) (a0 : Int) (a1 : Int) : Option (Int) :=
  (bif (!(a1 == 0)) then
  (bif (decide ((Int.tmod a0 a1) < 0)) then
    some (IntKind.wrap .i64 ((Int.tmod a0 a1) + a1))
  else
    some (Int.tmod a0 a1))
  else none)

noncomputable def c10 : Code := Try.f10.body.getD .skip

noncomputable def G10 (n : Nat) : Ctx (Res [.int .i64]) := noFns

theorem GO10 (n : Nat) : CtxOK Try.prog lay0 (G10 n) := noFns_ok

noncomputable def P10 (n : Nat) : Pl (Res [.int .i64]) :=
  .leaf

theorem K10 (n : Nat) : PlOK (G10 n) noInl lay0 15 (P10 n) c10 (fnK lay0 [.tmp 4] [.val (.int .i64), .val (.int .i64)] [.val (.int .i64)] [.int .i64]) :=
  trivial

theorem E10 (n : Nat) (a0 : Int) (a1 : Int) : F10 n a0 a1 = fnE [.val (.int .i64), .val (.int .i64)] (argDs [.int .i64, .int .i64] (a0, a1)) (fun st => ev (G10 n) noInl lay0 15 c10 (P10 n) st (fnK lay0 [.tmp 4] [.val (.int .i64), .val (.int .i64)] [.val (.int .i64)] [.int .i64])) := by kernel_rfl

theorem T10 (n : Nat) : Told Try.prog 10 [.int .i64, .int .i64] [.int .i64] (fun x => F10 n x.1 x.2) := by
  rintro ⟨a0, a1⟩ r h
  exact calls_plain (fn_sound lay0_ok mixed (rvs := [.tmp 4]) (by kernel_rfl : Try.prog.funcs[10]? = some Try.f10) (by kernel_rfl : Try.f10.body = some c10) (by kernel_rfl) (by kernel_rfl) (by kernel_rfl) (GO10 n) noInl_ok (K10 n) ((E10 n a0 a1).symm.trans h)) rfl rfl rfl rfl

/-! ### orthoepy/orthoepylaw18.Few -/

def F7l0F (n : Nat) (rF7l0 : List (Int × ((Int × (Bool × (Int × (List UInt8 × (List UInt8 × (Int × (Int × Unit))))))) × Unit)) → Int → Option (Bool)) (t0 : List (Int × ((Int × (Bool × (Int × (List UInt8 × (List UInt8 × (Int × (Int × Unit))))))) × Unit))) (t3 : Int) : Option (Bool) :=
  (bif (decide (t3 < ((t0).length : Int))) then
    (bif (decide (t3 ≤ 80)) then
      (bif inB t3 (t0).length then
      (bif (decide (((((t0).getD (Int.toNat t3) (Ty.dflt (.pair (.int .i64) (.pair (.pair (.int .i64) (.pair .bool (.pair (.int .i64) (.pair .str (.pair .str (.pair (.int .i64) (.pair (.int .i64) .unit))))))) .unit)))).2.1.2.2.2.1).length : Int) > 60)) then
        some false
      else
        (bif inB t3 (t0).length then
        (bif (decide (((((t0).getD (Int.toNat t3) (Ty.dflt (.pair (.int .i64) (.pair (.pair (.int .i64) (.pair .bool (.pair (.int .i64) (.pair .str (.pair .str (.pair (.int .i64) (.pair (.int .i64) .unit))))))) .unit)))).2.1.2.2.2.2.1).length : Int) > 60)) then
          some false
        else
          rF7l0 t0 (IntKind.wrap .i64 (t3 + 1)))
        else none))
      else none)
    else
      some (decide (((t0).length : Int) ≤ 80)))
  else
    some (decide (((t0).length : Int) ≤ 80)))
def F7l0 (n : Nat) : Nat → List (Int × ((Int × (Bool × (Int × (List UInt8 × (List UInt8 × (Int × (Int × Unit))))))) × Unit)) → Int → Option (Bool)
  | 0, _, _ => none
  | m + 1, t0, t3 => F7l0F n (F7l0 n m) t0 t3

def F7 (n : Nat) (a0 : List (Int × ((Int × (Bool × (Int × (List UInt8 × (List UInt8 × (Int × (Int × Unit))))))) × Unit))) : Option (Bool) :=
  F7l0 n n a0 0

noncomputable def c7 : Code := Try.f7.body.getD .skip

noncomputable def G7 (n : Nat) : Ctx (Res [.bool]) := noFns

theorem GO7 (n : Nat) : CtxOK Try.prog lay0 (G7 n) := noFns_ok

noncomputable def P7 (n : Nat) : Pl (Res [.bool]) :=
  (.two .leaf (.two (.two .leaf (.one (.loop [.val (.tmp 0) (.slice (.pair (.int .i64) (.pair (.pair (.int .i64) (.pair .bool (.pair (.int .i64) (.pair .str (.pair .str (.pair (.int .i64) (.pair (.int .i64) .unit))))))) .unit))), .val (.tmp 3) (.int .i64)] n (fun m x => F7l0 n m x.1 x.2.1) (fun _ => .leaf)))) .leaf))

theorem K7 (n : Nat) : PlOK (G7 n) noInl lay0 35 (P7 n) c7 (fnK lay0 [.tmp 2] [.val (.slice (.pair (.int .i64) (.pair (.pair (.int .i64) (.pair .bool (.pair (.int .i64) (.pair .str (.pair .str (.pair (.int .i64) (.pair (.int .i64) .unit))))))) .unit)))] [.val .bool] [.bool]) :=
  ⟨trivial, ⟨⟨trivial, ⟨by kernel_rfl, fun x => by kernel_rfl, fun m => ⟨fun x => by kernel_rfl, trivial⟩⟩⟩, trivial⟩⟩

theorem E7 (n : Nat) (a0 : List (Int × ((Int × (Bool × (Int × (List UInt8 × (List UInt8 × (Int × (Int × Unit))))))) × Unit))) : F7 n a0 = fnE [.val (.slice (.pair (.int .i64) (.pair (.pair (.int .i64) (.pair .bool (.pair (.int .i64) (.pair .str (.pair .str (.pair (.int .i64) (.pair (.int .i64) .unit))))))) .unit)))] (argDs [.slice (.pair (.int .i64) (.pair (.pair (.int .i64) (.pair .bool (.pair (.int .i64) (.pair .str (.pair .str (.pair (.int .i64) (.pair (.int .i64) .unit))))))) .unit))] (a0)) (fun st => ev (G7 n) noInl lay0 35 c7 (P7 n) st (fnK lay0 [.tmp 2] [.val (.slice (.pair (.int .i64) (.pair (.pair (.int .i64) (.pair .bool (.pair (.int .i64) (.pair .str (.pair .str (.pair (.int .i64) (.pair (.int .i64) .unit))))))) .unit)))] [.val .bool] [.bool])) := by kernel_rfl

theorem T7 (n : Nat) : Told Try.prog 7 [.slice (.pair (.int .i64) (.pair (.pair (.int .i64) (.pair .bool (.pair (.int .i64) (.pair .str (.pair .str (.pair (.int .i64) (.pair (.int .i64) .unit))))))) .unit))] [.bool] (fun x => F7 n x) := by
  rintro a0 r h
  exact calls_plain (fn_sound lay0_ok mixed (rvs := [.tmp 2]) (by kernel_rfl : Try.prog.funcs[7]? = some Try.f7) (by kernel_rfl : Try.f7.body = some c7) (by kernel_rfl) (by kernel_rfl) (by kernel_rfl) (GO7 n) noInl_ok (K7 n) ((E7 n a0).symm.trans h)) rfl rfl rfl rfl

/-! ### orthoepy/orthoepylaw18.short -/

def F8l0F (n : Nat) (rF8l0 : List (List UInt8) → Int → Option (Bool)) (t0 : List (List UInt8)) (t3 : Int) : Option (Bool) :=
  (bif (decide (t3 < ((t0).length : Int))) then
    (bif (decide (t3 ≤ 30)) then
      (bif inB t3 (t0).length then
      (bif (decide (((((t0).getD (Int.toNat t3) (Ty.dflt .str))).length : Int) > 60)) then
        some false
      else
        rF8l0 t0 (IntKind.wrap .i64 (t3 + 1)))
      else none)
    else
      some (decide (((t0).length : Int) ≤ 30)))
  else
    some (decide (((t0).length : Int) ≤ 30)))
def F8l0 (n : Nat) : Nat → List (List UInt8) → Int → Option (Bool)
  | 0, _, _ => none
  | m + 1, t0, t3 => F8l0F n (F8l0 n m) t0 t3

def F8 (n : Nat) (a0 : List (List UInt8)) : Option (Bool) :=
  F8l0 n n a0 0

noncomputable def c8 : Code := Try.f8.body.getD .skip

noncomputable def G8 (n : Nat) : Ctx (Res [.bool]) := noFns

theorem GO8 (n : Nat) : CtxOK Try.prog lay0 (G8 n) := noFns_ok

noncomputable def P8 (n : Nat) : Pl (Res [.bool]) :=
  (.two .leaf (.two (.two .leaf (.one (.loop [.val (.tmp 0) (.slice .str), .val (.tmp 3) (.int .i64)] n (fun m x => F8l0 n m x.1 x.2.1) (fun _ => .leaf)))) .leaf))

theorem K8 (n : Nat) : PlOK (G8 n) noInl lay0 23 (P8 n) c8 (fnK lay0 [.tmp 2] [.val (.slice .str)] [.val .bool] [.bool]) :=
  ⟨trivial, ⟨⟨trivial, ⟨by kernel_rfl, fun x => by kernel_rfl, fun m => ⟨fun x => by kernel_rfl, trivial⟩⟩⟩, trivial⟩⟩

theorem E8 (n : Nat) (a0 : List (List UInt8)) : F8 n a0 = fnE [.val (.slice .str)] (argDs [.slice .str] (a0)) (fun st => ev (G8 n) noInl lay0 23 c8 (P8 n) st (fnK lay0 [.tmp 2] [.val (.slice .str)] [.val .bool] [.bool])) := by kernel_rfl

theorem T8 (n : Nat) : Told Try.prog 8 [.slice .str] [.bool] (fun x => F8 n x) := by
  rintro a0 r h
  exact calls_plain (fn_sound lay0_ok mixed (rvs := [.tmp 2]) (by kernel_rfl : Try.prog.funcs[8]? = some Try.f8) (by kernel_rfl : Try.f8.body = some c8) (by kernel_rfl) (by kernel_rfl) (by kernel_rfl) (GO8 n) noInl_ok (K8 n) ((E8 n a0).symm.trans h)) rfl rfl rfl rfl

end Go.Proofs.Ytoonknmckeggaaa.Ab
