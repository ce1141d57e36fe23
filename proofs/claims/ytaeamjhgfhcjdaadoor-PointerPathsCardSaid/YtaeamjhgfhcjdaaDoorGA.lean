/- Functions of the program as Lean functions. Printed by wip/gen/gen3.py. -/
import Derived.Test.YtaeamjhgfhcjdaaDoorGP
import Derived.Test.YtaeamjhgfhcjdaaDoorChecked
namespace Go.Proofs.YtaeamjhgfhcjdaaDoor.Ab
open Go Go.RowKit Go.Proofs
set_option maxRecDepth 100000
set_option maxHeartbeats 4000000
set_option linter.unusedVariables false

noncomputable def layL : List (Nat × LInfo) := [
  (3, ⟨Tryd.t3.desc, (Tryd.t3.zero).getD .nilFunc, 1, 8, some (.int .i64), false⟩),
  (4, ⟨Tryd.t4.desc, (Tryd.t4.zero).getD .nilFunc, 1, 1, some .bool, false⟩),
  (5, ⟨Tryd.t5.desc, (Tryd.t5.zero).getD .nilFunc, 1, 1, some (.int .u8), false⟩),
  (9, ⟨Tryd.t9.desc, (Tryd.t9.zero).getD .nilFunc, 1, 16, some .str, false⟩),
  (21, ⟨Tryd.t21.desc, (Tryd.t21.zero).getD .nilFunc, 1, 4, some (.int .i32), false⟩),
  (22, ⟨Tryd.t22.desc, (Tryd.t22.zero).getD .nilFunc, 1, 24, some (.slice .str), false⟩),
  (33, ⟨Tryd.t33.desc, (Tryd.t33.zero).getD .nilFunc, 1, 24, some (.slice (.int .u8)), false⟩),
  (34, ⟨Tryd.t34.desc, (Tryd.t34.zero).getD .nilFunc, 1, 24, some (.slice (.int .i32)), false⟩),
  (41, ⟨Tryd.t41.desc, (Tryd.t41.zero).getD .nilFunc, 1, 24, some (.slice (.int .i64)), false⟩),
  (42, ⟨Tryd.t42.desc, (Tryd.t42.zero).getD .nilFunc, 1, 24, some (.slice .value), false⟩),
  (44, ⟨Tryd.t43.desc, (Tryd.t44.zero).getD .nilFunc, 6, 88, some .value, false⟩),
  (46, ⟨Tryd.t46.desc, (Tryd.t46.zero).getD .nilFunc, 1, 8, some (.ref (.pair (.slice (.pair (.pair (.int .i64) (.pair .bool (.pair (.int .i64) (.pair .str (.pair .str (.pair (.int .i64) (.pair (.int .i64) .unit))))))) (.pair (.int .i64) (.pair (.int .i64) .unit)))) .unit)), false⟩),
  (75, ⟨Tryd.t75.desc, (Tryd.t75.zero).getD .nilFunc, 1, 24, some (.slice (.pair (.int .i64) (.pair .bool (.pair (.int .i64) (.pair .str (.pair .str (.pair (.int .i64) (.pair (.int .i64) .unit)))))))), false⟩),
  (77, ⟨Tryd.t76.desc, (Tryd.t77.zero).getD .nilFunc, 3, 72, some (.pair (.slice (.pair (.int .i64) (.pair .bool (.pair (.int .i64) (.pair .str (.pair .str (.pair (.int .i64) (.pair (.int .i64) .unit)))))))) (.pair (.slice (.int .i64)) (.pair (.slice (.int .i64)) .unit))), false⟩),
  (79, ⟨Tryd.t79.desc, (Tryd.t79.zero).getD .nilFunc, 16, 256, some (.arr 16 .str), false⟩),
  (81, ⟨Tryd.t80.desc, (Tryd.t81.zero).getD .nilFunc, 7, 72, some (.pair (.int .i64) (.pair .bool (.pair (.int .i64) (.pair .str (.pair .str (.pair (.int .i64) (.pair (.int .i64) .unit))))))), false⟩),
  (86, ⟨Tryd.t86.desc, (Tryd.t86.zero).getD .nilFunc, 1, 24, some (.slice (.pair (.pair (.int .i64) (.pair .bool (.pair (.int .i64) (.pair .str (.pair .str (.pair (.int .i64) (.pair (.int .i64) .unit))))))) (.pair (.int .i64) (.pair (.int .i64) .unit)))), false⟩),
  (88, ⟨Tryd.t87.desc, (Tryd.t88.zero).getD .nilFunc, 1, 24, some (.pair (.slice (.pair (.pair (.int .i64) (.pair .bool (.pair (.int .i64) (.pair .str (.pair .str (.pair (.int .i64) (.pair (.int .i64) .unit))))))) (.pair (.int .i64) (.pair (.int .i64) .unit)))) .unit), false⟩),
  (89, ⟨Tryd.t89.desc, (Tryd.t89.zero).getD .nilFunc, 1, 8, some (.ref (.pair (.pair (.int .i64) (.pair .bool (.pair (.int .i64) (.pair .str (.pair .str (.pair (.int .i64) (.pair (.int .i64) .unit))))))) (.pair (.int .i64) (.pair (.int .i64) .unit)))), false⟩),
  (92, ⟨Tryd.t91.desc, (Tryd.t92.zero).getD .nilFunc, 9, 88, some (.pair (.pair (.int .i64) (.pair .bool (.pair (.int .i64) (.pair .str (.pair .str (.pair (.int .i64) (.pair (.int .i64) .unit))))))) (.pair (.int .i64) (.pair (.int .i64) .unit))), false⟩),
  (101, ⟨Tryd.t101.desc, (Tryd.t101.zero).getD .nilFunc, 3, 48, some (.arr 3 .str), false⟩),
  (102, ⟨Tryd.t102.desc, (Tryd.t102.zero).getD .nilFunc, 2, 32, some (.arr 2 .str), false⟩),
  (103, ⟨Tryd.t103.desc, (Tryd.t103.zero).getD .nilFunc, 5, 80, some (.arr 5 .str), false⟩),
  (109, ⟨Tryd.t109.desc, (Tryd.t109.zero).getD .nilFunc, 8, 64, some (.arr 8 (.int .i64)), false⟩),
  (113, ⟨Tryd.t112.desc, (Tryd.t113.zero).getD .nilFunc, 4, 24, some (.pair (.int .u8) (.pair (.int .i32) (.pair (.int .i64) (.pair (.int .i64) .unit)))), false⟩),
  (127, ⟨Tryd.t127.desc, (Tryd.t127.zero).getD .nilFunc, 32, 256, some (.arr 32 (.int .i64)), false⟩),
  (130, ⟨Tryd.t130.desc, (Tryd.t130.zero).getD .nilFunc, 12, 48, some (.arr 12 (.int .i32)), false⟩),
  (131, ⟨Tryd.t131.desc, (Tryd.t131.zero).getD .nilFunc, 24, 96, some (.arr 24 (.int .i32)), false⟩),
  (132, ⟨Tryd.t132.desc, (Tryd.t132.zero).getD .nilFunc, 16, 64, some (.arr 16 (.int .i32)), false⟩),
  (133, ⟨Tryd.t133.desc, (Tryd.t133.zero).getD .nilFunc, 3, 12, some (.arr 3 (.int .i32)), false⟩),
  (134, ⟨Tryd.t134.desc, (Tryd.t134.zero).getD .nilFunc, 8, 32, some (.arr 8 (.int .i32)), false⟩)]

theorem layAll : LayAll Tryd.prog layL := by
  refine .cons (by kernel_rfl) (by kernel_rfl) (by kernel_rfl) ?_
  refine .cons (by kernel_rfl) (by kernel_rfl) (by kernel_rfl) ?_
  refine .cons (by kernel_rfl) (by kernel_rfl) (by kernel_rfl) ?_
  refine .cons (by kernel_rfl) (by kernel_rfl) (by kernel_rfl) ?_
  refine .cons (by kernel_rfl) (by kernel_rfl) (by kernel_rfl) ?_
  refine .cons (by kernel_rfl) (by kernel_rfl) (by kernel_rfl) ?_
  refine .cons (by kernel_rfl) (by kernel_rfl) (by kernel_rfl) ?_
  refine .cons (by kernel_rfl) (by kernel_rfl) (by kernel_rfl) ?_
  refine .cons (by kernel_rfl) (by kernel_rfl) (by kernel_rfl) ?_
  refine .cons (by kernel_rfl) (by kernel_rfl) (by kernel_rfl) ?_
  refine .cons (by kernel_rfl) (by kernel_rfl) (by kernel_rfl) ?_
  refine .cons (by kernel_rfl) (by kernel_rfl) (by kernel_rfl) ?_
  refine .cons (by kernel_rfl) (by kernel_rfl) (by kernel_rfl) ?_
  refine .cons (by kernel_rfl) (by kernel_rfl) (by kernel_rfl) ?_
  refine .cons (by kernel_rfl) (by kernel_rfl) (by kernel_rfl) ?_
  refine .cons (by kernel_rfl) (by kernel_rfl) (by kernel_rfl) ?_
  refine .cons (by kernel_rfl) (by kernel_rfl) (by kernel_rfl) ?_
  refine .cons (by kernel_rfl) (by kernel_rfl) (by kernel_rfl) ?_
  refine .cons (by kernel_rfl) (by kernel_rfl) (by kernel_rfl) ?_
  refine .cons (by kernel_rfl) (by kernel_rfl) (by kernel_rfl) ?_
  refine .cons (by kernel_rfl) (by kernel_rfl) (by kernel_rfl) ?_
  refine .cons (by kernel_rfl) (by kernel_rfl) (by kernel_rfl) ?_
  refine .cons (by kernel_rfl) (by kernel_rfl) (by kernel_rfl) ?_
  refine .cons (by kernel_rfl) (by kernel_rfl) (by kernel_rfl) ?_
  refine .cons (by kernel_rfl) (by kernel_rfl) (by kernel_rfl) ?_
  refine .cons (by kernel_rfl) (by kernel_rfl) (by kernel_rfl) ?_
  refine .cons (by kernel_rfl) (by kernel_rfl) (by kernel_rfl) ?_
  refine .cons (by kernel_rfl) (by kernel_rfl) (by kernel_rfl) ?_
  refine .cons (by kernel_rfl) (by kernel_rfl) (by kernel_rfl) ?_
  refine .cons (by kernel_rfl) (by kernel_rfl) (by kernel_rfl) ?_
  refine .cons (by kernel_rfl) (by kernel_rfl) (by kernel_rfl) ?_
  exact .nil

theorem mixed : Tryd.prog.follows .mixedOrders = true := by kernel_rfl

theorem layEq : ∀ t i, layF layL t = some i → EqOK Tryd.prog (layF layL) t i := eq_none (by kernel_rfl)

noncomputable def lay0 : Lay := layOf layL []
theorem lay0_ok : LayOK Tryd.prog lay0 := layOf_ok layAll (by simp) layEq


/-! ### (*orthoepy/arena.Arena).Len -/

def F32 (n : Nat) (a0 : Option (List ((Int × (Bool × (Int × (List UInt8 × (List UInt8 × (Int × (Int × Unit))))))) × (Int × (Int × Unit))) × Unit)) : Option (Int) :=
  (bif (Option.isSome a0) then
  some (((Option.getD a0 (Ty.dflt (.pair (.slice (.pair (.pair (.int .i64) (.pair .bool (.pair (.int .i64) (.pair .str (.pair .str (.pair (.int .i64) (.pair (.int .i64) .unit))))))) (.pair (.int .i64) (.pair (.int .i64) .unit)))) .unit))).1).length : Int)
  else none)

noncomputable def c32 : Code := Tryd.f32.body.getD .skip

noncomputable def G32 (n : Nat) : Ctx (Res [.int .i64]) := noFns

theorem GO32 (n : Nat) : CtxOK Tryd.prog lay0 (G32 n) := noFns_ok

noncomputable def P32 (n : Nat) : Pl (Res [.int .i64]) :=
  .leaf

theorem K32 (n : Nat) : PlOK (G32 n) noInl lay0 8 (P32 n) c32 (fnK lay0 [.tmp 2] [.val (.ref (.pair (.slice (.pair (.pair (.int .i64) (.pair .bool (.pair (.int .i64) (.pair .str (.pair .str (.pair (.int .i64) (.pair (.int .i64) .unit))))))) (.pair (.int .i64) (.pair (.int .i64) .unit)))) .unit))] [.val (.int .i64)] [.int .i64]) :=
  trivial

theorem E32 (n : Nat) (a0 : Option (List ((Int × (Bool × (Int × (List UInt8 × (List UInt8 × (Int × (Int × Unit))))))) × (Int × (Int × Unit))) × Unit)) : F32 n a0 = fnE [.val (.ref (.pair (.slice (.pair (.pair (.int .i64) (.pair .bool (.pair (.int .i64) (.pair .str (.pair .str (.pair (.int .i64) (.pair (.int .i64) .unit))))))) (.pair (.int .i64) (.pair (.int .i64) .unit)))) .unit))] (argDs [.ref (.pair (.slice (.pair (.pair (.int .i64) (.pair .bool (.pair (.int .i64) (.pair .str (.pair .str (.pair (.int .i64) (.pair (.int .i64) .unit))))))) (.pair (.int .i64) (.pair (.int .i64) .unit)))) .unit)] (a0)) (fun st => ev (G32 n) noInl lay0 8 c32 (P32 n) st (fnK lay0 [.tmp 2] [.val (.ref (.pair (.slice (.pair (.pair (.int .i64) (.pair .bool (.pair (.int .i64) (.pair .str (.pair .str (.pair (.int .i64) (.pair (.int .i64) .unit))))))) (.pair (.int .i64) (.pair (.int .i64) .unit)))) .unit))] [.val (.int .i64)] [.int .i64])) := by kernel_rfl

theorem T32 (n : Nat) : Told Tryd.prog 32 [.ref (.pair (.slice (.pair (.pair (.int .i64) (.pair .bool (.pair (.int .i64) (.pair .str (.pair .str (.pair (.int .i64) (.pair (.int .i64) .unit))))))) (.pair (.int .i64) (.pair (.int .i64) .unit)))) .unit)] [.int .i64] (fun x => F32 n x) := by
  rintro a0 r h
  exact calls_plain (fn_sound lay0_ok mixed (rvs := [.tmp 2]) (by kernel_rfl : Tryd.prog.funcs[32]? = some Tryd.f32) (by kernel_rfl : Tryd.f32.body = some c32) (by kernel_rfl) (by kernel_rfl) (by kernel_rfl) (GO32 n) noInl_ok (K32 n) ((E32 n a0).symm.trans h)) rfl rfl rfl rfl

/-! ### (*orthoepy/arena.Arena).at -/

def F52 (n : Nat) (a0 : Option (List ((Int × (Bool × (Int × (List UInt8 × (List UInt8 × (Int × (Int × Unit))))))) × (Int × (Int × Unit))) × Unit)) (a1 : Int) : Option ((Option ((Int × (Bool × (Int × (List UInt8 × (List UInt8 × (Int × (Int × Unit))))))) × (Int × (Int × Unit))))) :=
  (bif (decide (a1 < 0)) then
    some none
  else
    (bif (Option.isSome a0) then
    (bif (decide (a1 ≥ (((Option.getD a0 (Ty.dflt (.pair (.slice (.pair (.pair (.int .i64) (.pair .bool (.pair (.int .i64) (.pair .str (.pair .str (.pair (.int .i64) (.pair (.int .i64) .unit))))))) (.pair (.int .i64) (.pair (.int .i64) .unit)))) .unit))).1).length : Int))) then
      some none
    else
      (bif (Option.isSome a0) then
      (bif inB a1 ((Option.getD a0 (Ty.dflt (.pair (.slice (.pair (.pair (.int .i64) (.pair .bool (.pair (.int .i64) (.pair .str (.pair .str (.pair (.int .i64) (.pair (.int .i64) .unit))))))) (.pair (.int .i64) (.pair (.int .i64) .unit)))) .unit))).1).length then
      some (some (((Option.getD a0 (Ty.dflt (.pair (.slice (.pair (.pair (.int .i64) (.pair .bool (.pair (.int .i64) (.pair .str (.pair .str (.pair (.int .i64) (.pair (.int .i64) .unit))))))) (.pair (.int .i64) (.pair (.int .i64) .unit)))) .unit))).1).getD (Int.toNat a1) (Ty.dflt (.pair (.pair (.int .i64) (.pair .bool (.pair (.int .i64) (.pair .str (.pair .str (.pair (.int .i64) (.pair (.int .i64) .unit))))))) (.pair (.int .i64) (.pair (.int .i64) .unit))))))
      else none)
      else none))
    else none))

noncomputable def c52 : Code := Tryd.f52.body.getD .skip

noncomputable def G52 (n : Nat) : Ctx (Res [.ref (.pair (.pair (.int .i64) (.pair .bool (.pair (.int .i64) (.pair .str (.pair .str (.pair (.int .i64) (.pair (.int .i64) .unit))))))) (.pair (.int .i64) (.pair (.int .i64) .unit)))]) := noFns

theorem GO52 (n : Nat) : CtxOK Tryd.prog lay0 (G52 n) := noFns_ok

noncomputable def P52 (n : Nat) : Pl (Res [.ref (.pair (.pair (.int .i64) (.pair .bool (.pair (.int .i64) (.pair .str (.pair .str (.pair (.int .i64) (.pair (.int .i64) .unit))))))) (.pair (.int .i64) (.pair (.int .i64) .unit)))]) :=
  .leaf

theorem K52 (n : Nat) : PlOK (G52 n) noInl lay0 22 (P52 n) c52 (fnK lay0 [.tmp 4] [.val (.ref (.pair (.slice (.pair (.pair (.int .i64) (.pair .bool (.pair (.int .i64) (.pair .str (.pair .str (.pair (.int .i64) (.pair (.int .i64) .unit))))))) (.pair (.int .i64) (.pair (.int .i64) .unit)))) .unit)), .val (.int .i64)] [.val (.ref (.pair (.pair (.int .i64) (.pair .bool (.pair (.int .i64) (.pair .str (.pair .str (.pair (.int .i64) (.pair (.int .i64) .unit))))))) (.pair (.int .i64) (.pair (.int .i64) .unit))))] [.ref (.pair (.pair (.int .i64) (.pair .bool (.pair (.int .i64) (.pair .str (.pair .str (.pair (.int .i64) (.pair (.int .i64) .unit))))))) (.pair (.int .i64) (.pair (.int .i64) .unit)))]) :=
  trivial

theorem E52 (n : Nat) (a0 : Option (List ((Int × (Bool × (Int × (List UInt8 × (List UInt8 × (Int × (Int × Unit))))))) × (Int × (Int × Unit))) × Unit)) (a1 : Int) : F52 n a0 a1 = fnE [.val (.ref (.pair (.slice (.pair (.pair (.int .i64) (.pair .bool (.pair (.int .i64) (.pair .str (.pair .str (.pair (.int .i64) (.pair (.int .i64) .unit))))))) (.pair (.int .i64) (.pair (.int .i64) .unit)))) .unit)), .val (.int .i64)] (argDs [.ref (.pair (.slice (.pair (.pair (.int .i64) (.pair .bool (.pair (.int .i64) (.pair .str (.pair .str (.pair (.int .i64) (.pair (.int .i64) .unit))))))) (.pair (.int .i64) (.pair (.int .i64) .unit)))) .unit), .int .i64] (a0, a1)) (fun st => ev (G52 n) noInl lay0 22 c52 (P52 n) st (fnK lay0 [.tmp 4] [.val (.ref (.pair (.slice (.pair (.pair (.int .i64) (.pair .bool (.pair (.int .i64) (.pair .str (.pair .str (.pair (.int .i64) (.pair (.int .i64) .unit))))))) (.pair (.int .i64) (.pair (.int .i64) .unit)))) .unit)), .val (.int .i64)] [.val (.ref (.pair (.pair (.int .i64) (.pair .bool (.pair (.int .i64) (.pair .str (.pair .str (.pair (.int .i64) (.pair (.int .i64) .unit))))))) (.pair (.int .i64) (.pair (.int .i64) .unit))))] [.ref (.pair (.pair (.int .i64) (.pair .bool (.pair (.int .i64) (.pair .str (.pair .str (.pair (.int .i64) (.pair (.int .i64) .unit))))))) (.pair (.int .i64) (.pair (.int .i64) .unit)))])) := by kernel_rfl

theorem T52 (n : Nat) : Told Tryd.prog 52 [.ref (.pair (.slice (.pair (.pair (.int .i64) (.pair .bool (.pair (.int .i64) (.pair .str (.pair .str (.pair (.int .i64) (.pair (.int .i64) .unit))))))) (.pair (.int .i64) (.pair (.int .i64) .unit)))) .unit), .int .i64] [.ref (.pair (.pair (.int .i64) (.pair .bool (.pair (.int .i64) (.pair .str (.pair .str (.pair (.int .i64) (.pair (.int .i64) .unit))))))) (.pair (.int .i64) (.pair (.int .i64) .unit)))] (fun x => F52 n x.1 x.2) := by
  rintro ⟨a0, a1⟩ r h
  exact calls_plain (fn_sound lay0_ok mixed (rvs := [.tmp 4]) (by kernel_rfl : Tryd.prog.funcs[52]? = some Tryd.f52) (by kernel_rfl : Tryd.f52.body = some c52) (by kernel_rfl) (by kernel_rfl) (by kernel_rfl) (GO52 n) noInl_ok (K52 n) ((E52 n a0 a1).symm.trans h)) rfl rfl rfl rfl

/-! ### orthoepy/arena.open -/

def F75 (n : Nat) (a0 : Int) : Option (Bool) :=
  (bif (a0 == 5) then
    some true
  else
    some (a0 == 6))

noncomputable def c75 : Code := Tryd.f75.body.getD .skip

noncomputable def G75 (n : Nat) : Ctx (Res [.bool]) := noFns

theorem GO75 (n : Nat) : CtxOK Tryd.prog lay0 (G75 n) := noFns_ok

noncomputable def P75 (n : Nat) : Pl (Res [.bool]) :=
  .leaf

theorem K75 (n : Nat) : PlOK (G75 n) noInl lay0 9 (P75 n) c75 (fnK lay0 [.tmp 2] [.val (.int .i64)] [.val .bool] [.bool]) :=
  trivial

theorem E75 (n : Nat) (a0 : Int) : F75 n a0 = fnE [.val (.int .i64)] (argDs [.int .i64] (a0)) (fun st => ev (G75 n) noInl lay0 9 c75 (P75 n) st (fnK lay0 [.tmp 2] [.val (.int .i64)] [.val .bool] [.bool])) := by kernel_rfl

theorem T75 (n : Nat) : Told Tryd.prog 75 [.int .i64] [.bool] (fun x => F75 n x) := by
  rintro a0 r h
  exact calls_plain (fn_sound lay0_ok mixed (rvs := [.tmp 2]) (by kernel_rfl : Tryd.prog.funcs[75]? = some Tryd.f75) (by kernel_rfl : Tryd.f75.body = some c75) (by kernel_rfl) (by kernel_rfl) (by kernel_rfl) (GO75 n) noInl_ok (K75 n) ((E75 n a0).symm.trans h)) rfl rfl rfl rfl

/-! ### orthoepy/arena.kept -/

def F76 (n : Nat) (a0 : (Int × (Bool × (Int × (List UInt8 × (List UInt8 × (Int × (Int × Unit)))))))) (a1 : Int) : Option ((Int × (Bool × (Int × (List UInt8 × (List UInt8 × (Int × (Int × Unit)))))))) :=
  (bif (a0.1 == 2) then
    (bif (a1 == 6) then
      some (a0.1, (a0.2.1, (0, (([] : List UInt8), (a0.2.2.2.2.1, ((-1), ((-1), ())))))))
    else
      some (a0.1, (a0.2.1, (0, (([] : List UInt8), (([] : List UInt8), ((-1), ((-1), ()))))))))
  else
    (bif (a0.1 == 3) then
      (bif (a1 == 6) then
        some (a0.1, (false, (a0.2.2.1, (([] : List UInt8), (a0.2.2.2.2.1, ((-1), ((-1), ())))))))
      else
        some (a0.1, (false, (a0.2.2.1, (([] : List UInt8), (([] : List UInt8), ((-1), ((-1), ()))))))))
    else
      (bif (a0.1 == 4) then
        (bif (a1 == 6) then
          some (a0.1, (false, (0, (a0.2.2.2.1, (a0.2.2.2.2.1, ((-1), ((-1), ())))))))
        else
          some (a0.1, (false, (0, (a0.2.2.2.1, (([] : List UInt8), ((-1), ((-1), ()))))))))
      else
        (bif (a1 == 6) then
          some (a0.1, (false, (0, (([] : List UInt8), (a0.2.2.2.2.1, ((-1), ((-1), ())))))))
        else
          some (a0.1, (false, (0, (([] : List UInt8), (([] : List UInt8), ((-1), ((-1), ())))))))))))

noncomputable def c76 : Code := Tryd.f76.body.getD .skip

noncomputable def G76 (n : Nat) : Ctx (Res [.pair (.int .i64) (.pair .bool (.pair (.int .i64) (.pair .str (.pair .str (.pair (.int .i64) (.pair (.int .i64) .unit))))))]) := noFns

theorem GO76 (n : Nat) : CtxOK Tryd.prog lay0 (G76 n) := noFns_ok

noncomputable def P76 (n : Nat) : Pl (Res [.pair (.int .i64) (.pair .bool (.pair (.int .i64) (.pair .str (.pair .str (.pair (.int .i64) (.pair (.int .i64) .unit))))))]) :=
  .leaf

theorem K76 (n : Nat) : PlOK (G76 n) noInl lay0 32 (P76 n) c76 (fnK lay0 [.cell 4 81] [.val (.pair (.int .i64) (.pair .bool (.pair (.int .i64) (.pair .str (.pair .str (.pair (.int .i64) (.pair (.int .i64) .unit))))))), .val (.int .i64)] [.val (.pair (.int .i64) (.pair .bool (.pair (.int .i64) (.pair .str (.pair .str (.pair (.int .i64) (.pair (.int .i64) .unit)))))))] [.pair (.int .i64) (.pair .bool (.pair (.int .i64) (.pair .str (.pair .str (.pair (.int .i64) (.pair (.int .i64) .unit))))))]) :=
  trivial

theorem E76 (n : Nat) (a0 : (Int × (Bool × (Int × (List UInt8 × (List UInt8 × (Int × (Int × Unit)))))))) (a1 : Int) : F76 n a0 a1 = fnE [.val (.pair (.int .i64) (.pair .bool (.pair (.int .i64) (.pair .str (.pair .str (.pair (.int .i64) (.pair (.int .i64) .unit))))))), .val (.int .i64)] (argDs [.pair (.int .i64) (.pair .bool (.pair (.int .i64) (.pair .str (.pair .str (.pair (.int .i64) (.pair (.int .i64) .unit)))))), .int .i64] (a0, a1)) (fun st => ev (G76 n) noInl lay0 32 c76 (P76 n) st (fnK lay0 [.cell 4 81] [.val (.pair (.int .i64) (.pair .bool (.pair (.int .i64) (.pair .str (.pair .str (.pair (.int .i64) (.pair (.int .i64) .unit))))))), .val (.int .i64)] [.val (.pair (.int .i64) (.pair .bool (.pair (.int .i64) (.pair .str (.pair .str (.pair (.int .i64) (.pair (.int .i64) .unit)))))))] [.pair (.int .i64) (.pair .bool (.pair (.int .i64) (.pair .str (.pair .str (.pair (.int .i64) (.pair (.int .i64) .unit))))))])) := by kernel_rfl

theorem T76 (n : Nat) : Told Tryd.prog 76 [.pair (.int .i64) (.pair .bool (.pair (.int .i64) (.pair .str (.pair .str (.pair (.int .i64) (.pair (.int .i64) .unit)))))), .int .i64] [.pair (.int .i64) (.pair .bool (.pair (.int .i64) (.pair .str (.pair .str (.pair (.int .i64) (.pair (.int .i64) .unit))))))] (fun x => F76 n x.1 x.2) := by
  rintro ⟨a0, a1⟩ r h
  exact calls_plain (fn_sound lay0_ok mixed (rvs := [.cell 4 81]) (by kernel_rfl : Tryd.prog.funcs[76]? = some Tryd.f76) (by kernel_rfl : Tryd.f76.body = some c76) (by kernel_rfl) (by kernel_rfl) (by kernel_rfl) (GO76 n) noInl_ok (K76 n) ((E76 n a0 a1).symm.trans h)) rfl rfl rfl rfl

/-! ### (*orthoepy/arena.Arena).Node -/

def F45 (n : Nat) (a0 : Option (List ((Int × (Bool × (Int × (List UInt8 × (List UInt8 × (Int × (Int × Unit))))))) × (Int × (Int × Unit))) × Unit)) (a1 : Int) : Option ((Int × (Bool × (Int × (List UInt8 × (List UInt8 × (Int × (Int × Unit))))))) × Bool) :=
  (match F52 n a0 a1 with
  | some r1 =>
  (bif (Option.isNone r1) then
    some ((0, (false, (0, (([] : List UInt8), (([] : List UInt8), (0, (0, ()))))))), false)
  else
    (bif (Option.isSome r1) then
    some ((Option.getD r1 (Ty.dflt (.pair (.pair (.int .i64) (.pair .bool (.pair (.int .i64) (.pair .str (.pair .str (.pair (.int .i64) (.pair (.int .i64) .unit))))))) (.pair (.int .i64) (.pair (.int .i64) .unit))))).1, true)
    else none))
  | none => none)

noncomputable def c45 : Code := Tryd.f45.body.getD .skip

noncomputable def G45 (n : Nat) : Ctx (Res [.pair (.int .i64) (.pair .bool (.pair (.int .i64) (.pair .str (.pair .str (.pair (.int .i64) (.pair (.int .i64) .unit)))))), .bool]) := ent 52 [.ref (.pair (.slice (.pair (.pair (.int .i64) (.pair .bool (.pair (.int .i64) (.pair .str (.pair .str (.pair (.int .i64) (.pair (.int .i64) .unit))))))) (.pair (.int .i64) (.pair (.int .i64) .unit)))) .unit), .int .i64] [.ref (.pair (.pair (.int .i64) (.pair .bool (.pair (.int .i64) (.pair .str (.pair .str (.pair (.int .i64) (.pair (.int .i64) .unit))))))) (.pair (.int .i64) (.pair (.int .i64) .unit)))] (fun x => F52 n x.1 x.2) (noFns)

theorem GO45 (n : Nat) : CtxOK Tryd.prog lay0 (G45 n) := ent_ok (T52 n) (fun _ _ h => h) (noFns_ok)

noncomputable def P45 (n : Nat) : Pl (Res [.pair (.int .i64) (.pair .bool (.pair (.int .i64) (.pair .str (.pair .str (.pair (.int .i64) (.pair (.int .i64) .unit)))))), .bool]) :=
  .leaf

theorem K45 (n : Nat) : PlOK (G45 n) noInl lay0 17 (P45 n) c45 (fnK lay0 [.cell 4 81, .tmp 5] [.val (.ref (.pair (.slice (.pair (.pair (.int .i64) (.pair .bool (.pair (.int .i64) (.pair .str (.pair .str (.pair (.int .i64) (.pair (.int .i64) .unit))))))) (.pair (.int .i64) (.pair (.int .i64) .unit)))) .unit)), .val (.int .i64)] [.val (.pair (.int .i64) (.pair .bool (.pair (.int .i64) (.pair .str (.pair .str (.pair (.int .i64) (.pair (.int .i64) .unit))))))), .val .bool] [.pair (.int .i64) (.pair .bool (.pair (.int .i64) (.pair .str (.pair .str (.pair (.int .i64) (.pair (.int .i64) .unit)))))), .bool]) :=
  trivial

theorem E45 (n : Nat) (a0 : Option (List ((Int × (Bool × (Int × (List UInt8 × (List UInt8 × (Int × (Int × Unit))))))) × (Int × (Int × Unit))) × Unit)) (a1 : Int) : F45 n a0 a1 = fnE [.val (.ref (.pair (.slice (.pair (.pair (.int .i64) (.pair .bool (.pair (.int .i64) (.pair .str (.pair .str (.pair (.int .i64) (.pair (.int .i64) .unit))))))) (.pair (.int .i64) (.pair (.int .i64) .unit)))) .unit)), .val (.int .i64)] (argDs [.ref (.pair (.slice (.pair (.pair (.int .i64) (.pair .bool (.pair (.int .i64) (.pair .str (.pair .str (.pair (.int .i64) (.pair (.int .i64) .unit))))))) (.pair (.int .i64) (.pair (.int .i64) .unit)))) .unit), .int .i64] (a0, a1)) (fun st => ev (G45 n) noInl lay0 17 c45 (P45 n) st (fnK lay0 [.cell 4 81, .tmp 5] [.val (.ref (.pair (.slice (.pair (.pair (.int .i64) (.pair .bool (.pair (.int .i64) (.pair .str (.pair .str (.pair (.int .i64) (.pair (.int .i64) .unit))))))) (.pair (.int .i64) (.pair (.int .i64) .unit)))) .unit)), .val (.int .i64)] [.val (.pair (.int .i64) (.pair .bool (.pair (.int .i64) (.pair .str (.pair .str (.pair (.int .i64) (.pair (.int .i64) .unit))))))), .val .bool] [.pair (.int .i64) (.pair .bool (.pair (.int .i64) (.pair .str (.pair .str (.pair (.int .i64) (.pair (.int .i64) .unit)))))), .bool])) := by kernel_rfl

theorem T45 (n : Nat) : Told Tryd.prog 45 [.ref (.pair (.slice (.pair (.pair (.int .i64) (.pair .bool (.pair (.int .i64) (.pair .str (.pair .str (.pair (.int .i64) (.pair (.int .i64) .unit))))))) (.pair (.int .i64) (.pair (.int .i64) .unit)))) .unit), .int .i64] [.pair (.int .i64) (.pair .bool (.pair (.int .i64) (.pair .str (.pair .str (.pair (.int .i64) (.pair (.int .i64) .unit)))))), .bool] (fun x => F45 n x.1 x.2) := by
  rintro ⟨a0, a1⟩ r h
  exact calls_plain (fn_sound lay0_ok mixed (rvs := [.cell 4 81, .tmp 5]) (by kernel_rfl : Tryd.prog.funcs[45]? = some Tryd.f45) (by kernel_rfl : Tryd.f45.body = some c45) (by kernel_rfl) (by kernel_rfl) (by kernel_rfl) (GO45 n) noInl_ok (K45 n) ((E45 n a0 a1).symm.trans h)) rfl rfl rfl rfl

/-! ### (*orthoepy/arena.Arena).Parent -/

def F34 (n : Nat) (a0 : Option (List ((Int × (Bool × (Int × (List UInt8 × (List UInt8 × (Int × (Int × Unit))))))) × (Int × (Int × Unit))) × Unit)) (a1 : Int) : Option (Int) :=
  (match F52 n a0 a1 with
  | some r1 =>
  (bif (Option.isNone r1) then
    some (-1)
  else
    (bif (Option.isSome r1) then
    some (Option.getD r1 (Ty.dflt (.pair (.pair (.int .i64) (.pair .bool (.pair (.int .i64) (.pair .str (.pair .str (.pair (.int .i64) (.pair (.int .i64) .unit))))))) (.pair (.int .i64) (.pair (.int .i64) .unit))))).2.1
    else none))
  | none => none)

noncomputable def c34 : Code := Tryd.f34.body.getD .skip

noncomputable def G34 (n : Nat) : Ctx (Res [.int .i64]) := ent 52 [.ref (.pair (.slice (.pair (.pair (.int .i64) (.pair .bool (.pair (.int .i64) (.pair .str (.pair .str (.pair (.int .i64) (.pair (.int .i64) .unit))))))) (.pair (.int .i64) (.pair (.int .i64) .unit)))) .unit), .int .i64] [.ref (.pair (.pair (.int .i64) (.pair .bool (.pair (.int .i64) (.pair .str (.pair .str (.pair (.int .i64) (.pair (.int .i64) .unit))))))) (.pair (.int .i64) (.pair (.int .i64) .unit)))] (fun x => F52 n x.1 x.2) (noFns)

theorem GO34 (n : Nat) : CtxOK Tryd.prog lay0 (G34 n) := ent_ok (T52 n) (fun _ _ h => h) (noFns_ok)

noncomputable def P34 (n : Nat) : Pl (Res [.int .i64]) :=
  .leaf

theorem K34 (n : Nat) : PlOK (G34 n) noInl lay0 15 (P34 n) c34 (fnK lay0 [.tmp 4] [.val (.ref (.pair (.slice (.pair (.pair (.int .i64) (.pair .bool (.pair (.int .i64) (.pair .str (.pair .str (.pair (.int .i64) (.pair (.int .i64) .unit))))))) (.pair (.int .i64) (.pair (.int .i64) .unit)))) .unit)), .val (.int .i64)] [.val (.int .i64)] [.int .i64]) :=
  trivial

theorem E34 (n : Nat) (a0 : Option (List ((Int × (Bool × (Int × (List UInt8 × (List UInt8 × (Int × (Int × Unit))))))) × (Int × (Int × Unit))) × Unit)) (a1 : Int) : F34 n a0 a1 = fnE [.val (.ref (.pair (.slice (.pair (.pair (.int .i64) (.pair .bool (.pair (.int .i64) (.pair .str (.pair .str (.pair (.int .i64) (.pair (.int .i64) .unit))))))) (.pair (.int .i64) (.pair (.int .i64) .unit)))) .unit)), .val (.int .i64)] (argDs [.ref (.pair (.slice (.pair (.pair (.int .i64) (.pair .bool (.pair (.int .i64) (.pair .str (.pair .str (.pair (.int .i64) (.pair (.int .i64) .unit))))))) (.pair (.int .i64) (.pair (.int .i64) .unit)))) .unit), .int .i64] (a0, a1)) (fun st => ev (G34 n) noInl lay0 15 c34 (P34 n) st (fnK lay0 [.tmp 4] [.val (.ref (.pair (.slice (.pair (.pair (.int .i64) (.pair .bool (.pair (.int .i64) (.pair .str (.pair .str (.pair (.int .i64) (.pair (.int .i64) .unit))))))) (.pair (.int .i64) (.pair (.int .i64) .unit)))) .unit)), .val (.int .i64)] [.val (.int .i64)] [.int .i64])) := by kernel_rfl

theorem T34 (n : Nat) : Told Tryd.prog 34 [.ref (.pair (.slice (.pair (.pair (.int .i64) (.pair .bool (.pair (.int .i64) (.pair .str (.pair .str (.pair (.int .i64) (.pair (.int .i64) .unit))))))) (.pair (.int .i64) (.pair (.int .i64) .unit)))) .unit), .int .i64] [.int .i64] (fun x => F34 n x.1 x.2) := by
  rintro ⟨a0, a1⟩ r h
  exact calls_plain (fn_sound lay0_ok mixed (rvs := [.tmp 4]) (by kernel_rfl : Tryd.prog.funcs[34]? = some Tryd.f34) (by kernel_rfl : Tryd.f34.body = some c34) (by kernel_rfl) (by kernel_rfl) (by kernel_rfl) (GO34 n) noInl_ok (K34 n) ((E34 n a0 a1).symm.trans h)) rfl rfl rfl rfl

/-! ### (*orthoepy/orthoepyref18.Arena).in -/

def F63 (n : Nat) (a0 : Option (List (Int × (Bool × (Int × (List UInt8 × (List UInt8 × (Int × (Int × Unit))))))) × (List Int × (List Int × Unit)))) (a1 : Int) : Option (Bool) :=
  (bif (decide (a1 ≥ 0)) then
    (bif (Option.isSome a0) then
    some (decide (a1 < (((Option.getD a0 (Ty.dflt (.pair (.slice (.pair (.int .i64) (.pair .bool (.pair (.int .i64) (.pair .str (.pair .str (.pair (.int .i64) (.pair (.int .i64) .unit)))))))) (.pair (.slice (.int .i64)) (.pair (.slice (.int .i64)) .unit))))).1).length : Int)))
    else none)
  else
    some false)

noncomputable def c63 : Code := Tryd.f63.body.getD .skip

noncomputable def G63 (n : Nat) : Ctx (Res [.bool]) := noFns

theorem GO63 (n : Nat) : CtxOK Tryd.prog lay0 (G63 n) := noFns_ok

noncomputable def P63 (n : Nat) : Pl (Res [.bool]) :=
  .leaf

theorem K63 (n : Nat) : PlOK (G63 n) noInl lay0 16 (P63 n) c63 (fnK lay0 [.tmp 4] [.val (.ref (.pair (.slice (.pair (.int .i64) (.pair .bool (.pair (.int .i64) (.pair .str (.pair .str (.pair (.int .i64) (.pair (.int .i64) .unit)))))))) (.pair (.slice (.int .i64)) (.pair (.slice (.int .i64)) .unit)))), .val (.int .i64)] [.val .bool] [.bool]) :=
  trivial

theorem E63 (n : Nat) (a0 : Option (List (Int × (Bool × (Int × (List UInt8 × (List UInt8 × (Int × (Int × Unit))))))) × (List Int × (List Int × Unit)))) (a1 : Int) : F63 n a0 a1 = fnE [.val (.ref (.pair (.slice (.pair (.int .i64) (.pair .bool (.pair (.int .i64) (.pair .str (.pair .str (.pair (.int .i64) (.pair (.int .i64) .unit)))))))) (.pair (.slice (.int .i64)) (.pair (.slice (.int .i64)) .unit)))), .val (.int .i64)] (argDs [.ref (.pair (.slice (.pair (.int .i64) (.pair .bool (.pair (.int .i64) (.pair .str (.pair .str (.pair (.int .i64) (.pair (.int .i64) .unit)))))))) (.pair (.slice (.int .i64)) (.pair (.slice (.int .i64)) .unit))), .int .i64] (a0, a1)) (fun st => ev (G63 n) noInl lay0 16 c63 (P63 n) st (fnK lay0 [.tmp 4] [.val (.ref (.pair (.slice (.pair (.int .i64) (.pair .bool (.pair (.int .i64) (.pair .str (.pair .str (.pair (.int .i64) (.pair (.int .i64) .unit)))))))) (.pair (.slice (.int .i64)) (.pair (.slice (.int .i64)) .unit)))), .val (.int .i64)] [.val .bool] [.bool])) := by kernel_rfl

theorem T63 (n : Nat) : Told Tryd.prog 63 [.ref (.pair (.slice (.pair (.int .i64) (.pair .bool (.pair (.int .i64) (.pair .str (.pair .str (.pair (.int .i64) (.pair (.int .i64) .unit)))))))) (.pair (.slice (.int .i64)) (.pair (.slice (.int .i64)) .unit))), .int .i64] [.bool] (fun x => F63 n x.1 x.2) := by
  rintro ⟨a0, a1⟩ r h
  exact calls_plain (fn_sound lay0_ok mixed (rvs := [.tmp 4]) (by kernel_rfl : Tryd.prog.funcs[63]? = some Tryd.f63) (by kernel_rfl : Tryd.f63.body = some c63) (by kernel_rfl) (by kernel_rfl) (by kernel_rfl) (GO63 n) noInl_ok (K63 n) ((E63 n a0 a1).symm.trans h)) rfl rfl rfl rfl

/-! ### (*orthoepy/orthoepyref18.Arena).Find -/

def F49l0F (n : Nat) (rF49l0 : Option (List (Int × (Bool × (Int × (List UInt8 × (List UInt8 × (Int × (Int × Unit))))))) × (List Int × (List Int × Unit))) → List UInt8 → Int → Option (Int)) (t0 : Option (List (Int × (Bool × (Int × (List UInt8 × (List UInt8 × (Int × (Int × Unit))))))) × (List Int × (List Int × Unit)))) (t2 : List UInt8) (t7 : Int) : Option (Int) :=
  (bif (decide (t7 ≥ 0)) then
    (bif (Option.isSome t0) then
    (bif inB t7 ((Option.getD t0 (Ty.dflt (.pair (.slice (.pair (.int .i64) (.pair .bool (.pair (.int .i64) (.pair .str (.pair .str (.pair (.int .i64) (.pair (.int .i64) .unit)))))))) (.pair (.slice (.int .i64)) (.pair (.slice (.int .i64)) .unit))))).1).length then
    (bif ((((Option.getD t0 (Ty.dflt (.pair (.slice (.pair (.int .i64) (.pair .bool (.pair (.int .i64) (.pair .str (.pair .str (.pair (.int .i64) (.pair (.int .i64) .unit)))))))) (.pair (.slice (.int .i64)) (.pair (.slice (.int .i64)) .unit))))).1).getD (Int.toNat t7) (Ty.dflt (.pair (.int .i64) (.pair .bool (.pair (.int .i64) (.pair .str (.pair .str (.pair (.int .i64) (.pair (.int .i64) .unit))))))))).2.2.2.2.1 == t2) then
      some t7
    else
      (bif (Option.isSome t0) then
      (bif inB t7 ((Option.getD t0 (Ty.dflt (.pair (.slice (.pair (.int .i64) (.pair .bool (.pair (.int .i64) (.pair .str (.pair .str (.pair (.int .i64) (.pair (.int .i64) .unit)))))))) (.pair (.slice (.int .i64)) (.pair (.slice (.int .i64)) .unit))))).1).length then
      rF49l0 t0 t2 (((Option.getD t0 (Ty.dflt (.pair (.slice (.pair (.int .i64) (.pair .bool (.pair (.int .i64) (.pair .str (.pair .str (.pair (.int .i64) (.pair (.int .i64) .unit)))))))) (.pair (.slice (.int .i64)) (.pair (.slice (.int .i64)) .unit))))).1).getD (Int.toNat t7) (Ty.dflt (.pair (.int .i64) (.pair .bool (.pair (.int .i64) (.pair .str (.pair .str (.pair (.int .i64) (.pair (.int .i64) .unit))))))))).2.2.2.2.2.2.1
      else none)
      else none))
    else none)
    else none)
  else
    some (-1))
def F49l0 (n : Nat) : Nat → Option (List (Int × (Bool × (Int × (List UInt8 × (List UInt8 × (Int × (Int × Unit))))))) × (List Int × (List Int × Unit))) → List UInt8 → Int → Option (Int)
  | 0, _, _, _ => none
  | m + 1, t0, t2, t7 => F49l0F n (F49l0 n m) t0 t2 t7

def F49 (n : Nat) (a0 : Option (List (Int × (Bool × (Int × (List UInt8 × (List UInt8 × (Int × (Int × Unit))))))) × (List Int × (List Int × Unit)))) (a1 : Int) (a2 : List UInt8) : Option (Int) :=
  (match F63 n a0 a1 with
  | some r1 =>
  (bif (!r1) then
    some (-1)
  else
    (bif (Option.isSome a0) then
    (bif inB a1 ((Option.getD a0 (Ty.dflt (.pair (.slice (.pair (.int .i64) (.pair .bool (.pair (.int .i64) (.pair .str (.pair .str (.pair (.int .i64) (.pair (.int .i64) .unit)))))))) (.pair (.slice (.int .i64)) (.pair (.slice (.int .i64)) .unit))))).1).length then
    (bif ((((Option.getD a0 (Ty.dflt (.pair (.slice (.pair (.int .i64) (.pair .bool (.pair (.int .i64) (.pair .str (.pair .str (.pair (.int .i64) (.pair (.int .i64) .unit)))))))) (.pair (.slice (.int .i64)) (.pair (.slice (.int .i64)) .unit))))).1).getD (Int.toNat a1) (Ty.dflt (.pair (.int .i64) (.pair .bool (.pair (.int .i64) (.pair .str (.pair .str (.pair (.int .i64) (.pair (.int .i64) .unit))))))))).1 != 6) then
      some (-1)
    else
      (bif (Option.isSome a0) then
      (bif inB a1 ((Option.getD a0 (Ty.dflt (.pair (.slice (.pair (.int .i64) (.pair .bool (.pair (.int .i64) (.pair .str (.pair .str (.pair (.int .i64) (.pair (.int .i64) .unit)))))))) (.pair (.slice (.int .i64)) (.pair (.slice (.int .i64)) .unit))))).1).length then
      F49l0 n n a0 a2 (((Option.getD a0 (Ty.dflt (.pair (.slice (.pair (.int .i64) (.pair .bool (.pair (.int .i64) (.pair .str (.pair .str (.pair (.int .i64) (.pair (.int .i64) .unit)))))))) (.pair (.slice (.int .i64)) (.pair (.slice (.int .i64)) .unit))))).1).getD (Int.toNat a1) (Ty.dflt (.pair (.int .i64) (.pair .bool (.pair (.int .i64) (.pair .str (.pair .str (.pair (.int .i64) (.pair (.int .i64) .unit))))))))).2.2.2.2.2.1
      else none)
      else none))
    else none)
    else none))
  | none => none)

noncomputable def c49 : Code := Tryd.f49.body.getD .skip

noncomputable def G49 (n : Nat) : Ctx (Res [.int .i64]) := ent 63 [.ref (.pair (.slice (.pair (.int .i64) (.pair .bool (.pair (.int .i64) (.pair .str (.pair .str (.pair (.int .i64) (.pair (.int .i64) .unit)))))))) (.pair (.slice (.int .i64)) (.pair (.slice (.int .i64)) .unit))), .int .i64] [.bool] (fun x => F63 n x.1 x.2) (noFns)

theorem GO49 (n : Nat) : CtxOK Tryd.prog lay0 (G49 n) := ent_ok (T63 n) (fun _ _ h => h) (noFns_ok)

noncomputable def P49 (n : Nat) : Pl (Res [.int .i64]) :=
  (.two .leaf (.two .leaf (.two (.two .leaf (.one (.loop [.val (.tmp 0) (.ref (.pair (.slice (.pair (.int .i64) (.pair .bool (.pair (.int .i64) (.pair .str (.pair .str (.pair (.int .i64) (.pair (.int .i64) .unit)))))))) (.pair (.slice (.int .i64)) (.pair (.slice (.int .i64)) .unit)))), .val (.tmp 2) .str, .val (.tmp 7) (.int .i64)] n (fun m x => F49l0 n m x.1 x.2.1 x.2.2.1) (fun _ => .leaf)))) .leaf)))

theorem K49 (n : Nat) : PlOK (G49 n) noInl lay0 52 (P49 n) c49 (fnK lay0 [.tmp 6] [.val (.ref (.pair (.slice (.pair (.int .i64) (.pair .bool (.pair (.int .i64) (.pair .str (.pair .str (.pair (.int .i64) (.pair (.int .i64) .unit)))))))) (.pair (.slice (.int .i64)) (.pair (.slice (.int .i64)) .unit)))), .val (.int .i64), .val .str] [.val (.int .i64)] [.int .i64]) :=
  ⟨trivial, ⟨trivial, ⟨⟨trivial, ⟨by kernel_rfl, fun x => by kernel_rfl, fun m => ⟨fun x => by kernel_rfl, trivial⟩⟩⟩, trivial⟩⟩⟩

theorem E49 (n : Nat) (a0 : Option (List (Int × (Bool × (Int × (List UInt8 × (List UInt8 × (Int × (Int × Unit))))))) × (List Int × (List Int × Unit)))) (a1 : Int) (a2 : List UInt8) : F49 n a0 a1 a2 = fnE [.val (.ref (.pair (.slice (.pair (.int .i64) (.pair .bool (.pair (.int .i64) (.pair .str (.pair .str (.pair (.int .i64) (.pair (.int .i64) .unit)))))))) (.pair (.slice (.int .i64)) (.pair (.slice (.int .i64)) .unit)))), .val (.int .i64), .val .str] (argDs [.ref (.pair (.slice (.pair (.int .i64) (.pair .bool (.pair (.int .i64) (.pair .str (.pair .str (.pair (.int .i64) (.pair (.int .i64) .unit)))))))) (.pair (.slice (.int .i64)) (.pair (.slice (.int .i64)) .unit))), .int .i64, .str] (a0, a1, a2)) (fun st => ev (G49 n) noInl lay0 52 c49 (P49 n) st (fnK lay0 [.tmp 6] [.val (.ref (.pair (.slice (.pair (.int .i64) (.pair .bool (.pair (.int .i64) (.pair .str (.pair .str (.pair (.int .i64) (.pair (.int .i64) .unit)))))))) (.pair (.slice (.int .i64)) (.pair (.slice (.int .i64)) .unit)))), .val (.int .i64), .val .str] [.val (.int .i64)] [.int .i64])) := by kernel_rfl

theorem T49 (n : Nat) : Told Tryd.prog 49 [.ref (.pair (.slice (.pair (.int .i64) (.pair .bool (.pair (.int .i64) (.pair .str (.pair .str (.pair (.int .i64) (.pair (.int .i64) .unit)))))))) (.pair (.slice (.int .i64)) (.pair (.slice (.int .i64)) .unit))), .int .i64, .str] [.int .i64] (fun x => F49 n x.1 x.2.1 x.2.2) := by
  rintro ⟨a0, a1, a2⟩ r h
  exact calls_plain (fn_sound lay0_ok mixed (rvs := [.tmp 6]) (by kernel_rfl : Tryd.prog.funcs[49]? = some Tryd.f49) (by kernel_rfl : Tryd.f49.body = some c49) (by kernel_rfl) (by kernel_rfl) (by kernel_rfl) (GO49 n) noInl_ok (K49 n) ((E49 n a0 a1 a2).symm.trans h)) rfl rfl rfl rfl

/-! ### (*orthoepy/orthoepyref18.Arena).Node -/

def F48 (n : Nat) (a0 : Option (List (Int × (Bool × (Int × (List UInt8 × (List UInt8 × (Int × (Int × Unit))))))) × (List Int × (List Int × Unit)))) (a1 : Int) : Option ((Int × (Bool × (Int × (List UInt8 × (List UInt8 × (Int × (Int × Unit))))))) × Bool) :=
  (match F63 n a0 a1 with
  | some r1 =>
  (bif (!r1) then
    some ((0, (false, (0, (([] : List UInt8), (([] : List UInt8), (0, (0, ()))))))), false)
  else
    (bif (Option.isSome a0) then
    (bif inB a1 ((Option.getD a0 (Ty.dflt (.pair (.slice (.pair (.int .i64) (.pair .bool (.pair (.int .i64) (.pair .str (.pair .str (.pair (.int .i64) (.pair (.int .i64) .unit)))))))) (.pair (.slice (.int .i64)) (.pair (.slice (.int .i64)) .unit))))).1).length then
    some ((((Option.getD a0 (Ty.dflt (.pair (.slice (.pair (.int .i64) (.pair .bool (.pair (.int .i64) (.pair .str (.pair .str (.pair (.int .i64) (.pair (.int .i64) .unit)))))))) (.pair (.slice (.int .i64)) (.pair (.slice (.int .i64)) .unit))))).1).getD (Int.toNat a1) (Ty.dflt (.pair (.int .i64) (.pair .bool (.pair (.int .i64) (.pair .str (.pair .str (.pair (.int .i64) (.pair (.int .i64) .unit))))))))), true)
    else none)
    else none))
  | none => none)

noncomputable def c48 : Code := Tryd.f48.body.getD .skip

noncomputable def G48 (n : Nat) : Ctx (Res [.pair (.int .i64) (.pair .bool (.pair (.int .i64) (.pair .str (.pair .str (.pair (.int .i64) (.pair (.int .i64) .unit)))))), .bool]) := ent 63 [.ref (.pair (.slice (.pair (.int .i64) (.pair .bool (.pair (.int .i64) (.pair .str (.pair .str (.pair (.int .i64) (.pair (.int .i64) .unit)))))))) (.pair (.slice (.int .i64)) (.pair (.slice (.int .i64)) .unit))), .int .i64] [.bool] (fun x => F63 n x.1 x.2) (noFns)

theorem GO48 (n : Nat) : CtxOK Tryd.prog lay0 (G48 n) := ent_ok (T63 n) (fun _ _ h => h) (noFns_ok)

noncomputable def P48 (n : Nat) : Pl (Res [.pair (.int .i64) (.pair .bool (.pair (.int .i64) (.pair .str (.pair .str (.pair (.int .i64) (.pair (.int .i64) .unit)))))), .bool]) :=
  .leaf

theorem K48 (n : Nat) : PlOK (G48 n) noInl lay0 18 (P48 n) c48 (fnK lay0 [.cell 4 81, .tmp 5] [.val (.ref (.pair (.slice (.pair (.int .i64) (.pair .bool (.pair (.int .i64) (.pair .str (.pair .str (.pair (.int .i64) (.pair (.int .i64) .unit)))))))) (.pair (.slice (.int .i64)) (.pair (.slice (.int .i64)) .unit)))), .val (.int .i64)] [.val (.pair (.int .i64) (.pair .bool (.pair (.int .i64) (.pair .str (.pair .str (.pair (.int .i64) (.pair (.int .i64) .unit))))))), .val .bool] [.pair (.int .i64) (.pair .bool (.pair (.int .i64) (.pair .str (.pair .str (.pair (.int .i64) (.pair (.int .i64) .unit)))))), .bool]) :=
  trivial

theorem E48 (n : Nat) (a0 : Option (List (Int × (Bool × (Int × (List UInt8 × (List UInt8 × (Int × (Int × Unit))))))) × (List Int × (List Int × Unit)))) (a1 : Int) : F48 n a0 a1 = fnE [.val (.ref (.pair (.slice (.pair (.int .i64) (.pair .bool (.pair (.int .i64) (.pair .str (.pair .str (.pair (.int .i64) (.pair (.int .i64) .unit)))))))) (.pair (.slice (.int .i64)) (.pair (.slice (.int .i64)) .unit)))), .val (.int .i64)] (argDs [.ref (.pair (.slice (.pair (.int .i64) (.pair .bool (.pair (.int .i64) (.pair .str (.pair .str (.pair (.int .i64) (.pair (.int .i64) .unit)))))))) (.pair (.slice (.int .i64)) (.pair (.slice (.int .i64)) .unit))), .int .i64] (a0, a1)) (fun st => ev (G48 n) noInl lay0 18 c48 (P48 n) st (fnK lay0 [.cell 4 81, .tmp 5] [.val (.ref (.pair (.slice (.pair (.int .i64) (.pair .bool (.pair (.int .i64) (.pair .str (.pair .str (.pair (.int .i64) (.pair (.int .i64) .unit)))))))) (.pair (.slice (.int .i64)) (.pair (.slice (.int .i64)) .unit)))), .val (.int .i64)] [.val (.pair (.int .i64) (.pair .bool (.pair (.int .i64) (.pair .str (.pair .str (.pair (.int .i64) (.pair (.int .i64) .unit))))))), .val .bool] [.pair (.int .i64) (.pair .bool (.pair (.int .i64) (.pair .str (.pair .str (.pair (.int .i64) (.pair (.int .i64) .unit)))))), .bool])) := by kernel_rfl

theorem T48 (n : Nat) : Told Tryd.prog 48 [.ref (.pair (.slice (.pair (.int .i64) (.pair .bool (.pair (.int .i64) (.pair .str (.pair .str (.pair (.int .i64) (.pair (.int .i64) .unit)))))))) (.pair (.slice (.int .i64)) (.pair (.slice (.int .i64)) .unit))), .int .i64] [.pair (.int .i64) (.pair .bool (.pair (.int .i64) (.pair .str (.pair .str (.pair (.int .i64) (.pair (.int .i64) .unit)))))), .bool] (fun x => F48 n x.1 x.2) := by
  rintro ⟨a0, a1⟩ r h
  exact calls_plain (fn_sound lay0_ok mixed (rvs := [.cell 4 81, .tmp 5]) (by kernel_rfl : Tryd.prog.funcs[48]? = some Tryd.f48) (by kernel_rfl : Tryd.f48.body = some c48) (by kernel_rfl) (by kernel_rfl) (by kernel_rfl) (GO48 n) noInl_ok (K48 n) ((E48 n a0 a1).symm.trans h)) rfl rfl rfl rfl

/-! ### (*orthoepy/orthoepyref18.Arena).Kids -/

def F50l0F (n : Nat) (rF50l0 : Option (List (Int × (Bool × (Int × (List UInt8 × (List UInt8 × (Int × (Int × Unit))))))) × (List Int × (List Int × Unit))) → List Int → Int → Option ((List Int))) (t0 : Option (List (Int × (Bool × (Int × (List UInt8 × (List UInt8 × (Int × (Int × Unit))))))) × (List Int × (List Int × Unit)))) (t5 : List Int) (t6 : Int) : Option ((List Int)) :=
  (bif (decide (t6 ≥ 0)) then
    (bif (decide (((t5).length + (([t6] : List Int)).length) * 8 ≤ maxRoom) && decide ((t5).length + (([t6] : List Int)).length ≤ maxRoom)) then
    (bif (Option.isSome t0) then
    (bif inB t6 ((Option.getD t0 (Ty.dflt (.pair (.slice (.pair (.int .i64) (.pair .bool (.pair (.int .i64) (.pair .str (.pair .str (.pair (.int .i64) (.pair (.int .i64) .unit)))))))) (.pair (.slice (.int .i64)) (.pair (.slice (.int .i64)) .unit))))).1).length then
    rF50l0 t0 (t5 ++ ([t6] : List Int)) (((Option.getD t0 (Ty.dflt (.pair (.slice (.pair (.int .i64) (.pair .bool (.pair (.int .i64) (.pair .str (.pair .str (.pair (.int .i64) (.pair (.int .i64) .unit)))))))) (.pair (.slice (.int .i64)) (.pair (.slice (.int .i64)) .unit))))).1).getD (Int.toNat t6) (Ty.dflt (.pair (.int .i64) (.pair .bool (.pair (.int .i64) (.pair .str (.pair .str (.pair (.int .i64) (.pair (.int .i64) .unit))))))))).2.2.2.2.2.2.1
    else none)
    else none)
    else none)
  else
    some t5)
def F50l0 (n : Nat) : Nat → Option (List (Int × (Bool × (Int × (List UInt8 × (List UInt8 × (Int × (Int × Unit))))))) × (List Int × (List Int × Unit))) → List Int → Int → Option ((List Int))
  | 0, _, _, _ => none
  | m + 1, t0, t5, t6 => F50l0F n (F50l0 n m) t0 t5 t6

def F50 (n : Nat) (a0 : Option (List (Int × (Bool × (Int × (List UInt8 × (List UInt8 × (Int × (Int × Unit))))))) × (List Int × (List Int × Unit)))) (a1 : Int) : Option ((List Int)) :=
  (match F63 n a0 a1 with
  | some r1 =>
  (bif (!r1) then
    some ([] : List Int)
  else
    (bif (Option.isSome a0) then
    (bif inB a1 ((Option.getD a0 (Ty.dflt (.pair (.slice (.pair (.int .i64) (.pair .bool (.pair (.int .i64) (.pair .str (.pair .str (.pair (.int .i64) (.pair (.int .i64) .unit)))))))) (.pair (.slice (.int .i64)) (.pair (.slice (.int .i64)) .unit))))).1).length then
    F50l0 n n a0 ([] : List Int) (((Option.getD a0 (Ty.dflt (.pair (.slice (.pair (.int .i64) (.pair .bool (.pair (.int .i64) (.pair .str (.pair .str (.pair (.int .i64) (.pair (.int .i64) .unit)))))))) (.pair (.slice (.int .i64)) (.pair (.slice (.int .i64)) .unit))))).1).getD (Int.toNat a1) (Ty.dflt (.pair (.int .i64) (.pair .bool (.pair (.int .i64) (.pair .str (.pair .str (.pair (.int .i64) (.pair (.int .i64) .unit))))))))).2.2.2.2.2.1
    else none)
    else none))
  | none => none)

noncomputable def c50 : Code := Tryd.f50.body.getD .skip

noncomputable def G50 (n : Nat) : Ctx (Res [.slice (.int .i64)]) := ent 63 [.ref (.pair (.slice (.pair (.int .i64) (.pair .bool (.pair (.int .i64) (.pair .str (.pair .str (.pair (.int .i64) (.pair (.int .i64) .unit)))))))) (.pair (.slice (.int .i64)) (.pair (.slice (.int .i64)) .unit))), .int .i64] [.bool] (fun x => F63 n x.1 x.2) (noFns)

theorem GO50 (n : Nat) : CtxOK Tryd.prog lay0 (G50 n) := ent_ok (T63 n) (fun _ _ h => h) (noFns_ok)

noncomputable def P50 (n : Nat) : Pl (Res [.slice (.int .i64)]) :=
  (.two .leaf (.two .leaf (.two .leaf (.two (.two .leaf (.one (.loop [.val (.tmp 0) (.ref (.pair (.slice (.pair (.int .i64) (.pair .bool (.pair (.int .i64) (.pair .str (.pair .str (.pair (.int .i64) (.pair (.int .i64) .unit)))))))) (.pair (.slice (.int .i64)) (.pair (.slice (.int .i64)) .unit)))), .vec (.tmp 5) 20000000 3 (.int .i64), .val (.tmp 6) (.int .i64)] n (fun m x => F50l0 n m x.1 x.2.1 x.2.2.1) (fun _ => .leaf)))) .leaf))))

theorem K50 (n : Nat) : PlOK (G50 n) noInl lay0 35 (P50 n) c50 (fnK lay0 [.tmp 4] [.val (.ref (.pair (.slice (.pair (.int .i64) (.pair .bool (.pair (.int .i64) (.pair .str (.pair .str (.pair (.int .i64) (.pair (.int .i64) .unit)))))))) (.pair (.slice (.int .i64)) (.pair (.slice (.int .i64)) .unit)))), .val (.int .i64)] [.val (.slice (.int .i64))] [.slice (.int .i64)]) :=
  ⟨trivial, ⟨trivial, ⟨trivial, ⟨⟨trivial, ⟨by kernel_rfl, fun x => by kernel_rfl, fun m => ⟨fun x => by kernel_rfl, trivial⟩⟩⟩, trivial⟩⟩⟩⟩

theorem E50 (n : Nat) (a0 : Option (List (Int × (Bool × (Int × (List UInt8 × (List UInt8 × (Int × (Int × Unit))))))) × (List Int × (List Int × Unit)))) (a1 : Int) : F50 n a0 a1 = fnE [.val (.ref (.pair (.slice (.pair (.int .i64) (.pair .bool (.pair (.int .i64) (.pair .str (.pair .str (.pair (.int .i64) (.pair (.int .i64) .unit)))))))) (.pair (.slice (.int .i64)) (.pair (.slice (.int .i64)) .unit)))), .val (.int .i64)] (argDs [.ref (.pair (.slice (.pair (.int .i64) (.pair .bool (.pair (.int .i64) (.pair .str (.pair .str (.pair (.int .i64) (.pair (.int .i64) .unit)))))))) (.pair (.slice (.int .i64)) (.pair (.slice (.int .i64)) .unit))), .int .i64] (a0, a1)) (fun st => ev (G50 n) noInl lay0 35 c50 (P50 n) st (fnK lay0 [.tmp 4] [.val (.ref (.pair (.slice (.pair (.int .i64) (.pair .bool (.pair (.int .i64) (.pair .str (.pair .str (.pair (.int .i64) (.pair (.int .i64) .unit)))))))) (.pair (.slice (.int .i64)) (.pair (.slice (.int .i64)) .unit)))), .val (.int .i64)] [.val (.slice (.int .i64))] [.slice (.int .i64)])) := by kernel_rfl

theorem T50 (n : Nat) : Told Tryd.prog 50 [.ref (.pair (.slice (.pair (.int .i64) (.pair .bool (.pair (.int .i64) (.pair .str (.pair .str (.pair (.int .i64) (.pair (.int .i64) .unit)))))))) (.pair (.slice (.int .i64)) (.pair (.slice (.int .i64)) .unit))), .int .i64] [.slice (.int .i64)] (fun x => F50 n x.1 x.2) := by
  rintro ⟨a0, a1⟩ r h
  exact calls_plain (fn_sound lay0_ok mixed (rvs := [.tmp 4]) (by kernel_rfl : Tryd.prog.funcs[50]? = some Tryd.f50) (by kernel_rfl : Tryd.f50.body = some c50) (by kernel_rfl) (by kernel_rfl) (by kernel_rfl) (GO50 n) noInl_ok (K50 n) ((E50 n a0 a1).symm.trans h)) rfl rfl rfl rfl

/-! ### orthoepy/arena.New -/

def F42 (n : Nat) : Option ((List ((Int × (Bool × (Int × (List UInt8 × (List UInt8 × (Int × (Int × Unit))))))) × (Int × (Int × Unit))) × Unit)) :=
  some (([] : List ((Int × (Bool × (Int × (List UInt8 × (List UInt8 × (Int × (Int × Unit))))))) × (Int × (Int × Unit)))), ())

noncomputable def c42 : Code := Tryd.f42.body.getD .skip

noncomputable def G42 (n : Nat) : Ctx (Res [.pair (.slice (.pair (.pair (.int .i64) (.pair .bool (.pair (.int .i64) (.pair .str (.pair .str (.pair (.int .i64) (.pair (.int .i64) .unit))))))) (.pair (.int .i64) (.pair (.int .i64) .unit)))) .unit]) := noFns

theorem GO42 (n : Nat) : CtxOK Tryd.prog lay0 (G42 n) := noFns_ok

noncomputable def P42 (n : Nat) : Pl (Res [.pair (.slice (.pair (.pair (.int .i64) (.pair .bool (.pair (.int .i64) (.pair .str (.pair .str (.pair (.int .i64) (.pair (.int .i64) .unit))))))) (.pair (.int .i64) (.pair (.int .i64) .unit)))) .unit]) :=
  .leaf

theorem K42 (n : Nat) : PlOK (G42 n) noInl lay0 3 (P42 n) c42 (fnK lay0 [.tmp 0] [] [.box (.pair (.vec 92 (.pair (.pair (.int .i64) (.pair .bool (.pair (.int .i64) (.pair .str (.pair .str (.pair (.int .i64) (.pair (.int .i64) .unit))))))) (.pair (.int .i64) (.pair (.int .i64) .unit)))) .unit)] [.pair (.slice (.pair (.pair (.int .i64) (.pair .bool (.pair (.int .i64) (.pair .str (.pair .str (.pair (.int .i64) (.pair (.int .i64) .unit))))))) (.pair (.int .i64) (.pair (.int .i64) .unit)))) .unit]) :=
  trivial

theorem E42 (n : Nat) : F42 n = fnE [] (argDs [] ()) (fun st => ev (G42 n) noInl lay0 3 c42 (P42 n) st (fnK lay0 [.tmp 0] [] [.box (.pair (.vec 92 (.pair (.pair (.int .i64) (.pair .bool (.pair (.int .i64) (.pair .str (.pair .str (.pair (.int .i64) (.pair (.int .i64) .unit))))))) (.pair (.int .i64) (.pair (.int .i64) .unit)))) .unit)] [.pair (.slice (.pair (.pair (.int .i64) (.pair .bool (.pair (.int .i64) (.pair .str (.pair .str (.pair (.int .i64) (.pair (.int .i64) .unit))))))) (.pair (.int .i64) (.pair (.int .i64) .unit)))) .unit])) := by kernel_rfl

theorem T42 (n : Nat) : ToldIo Tryd.prog 42 [] [.box (.pair (.vec 92 (.pair (.pair (.int .i64) (.pair .bool (.pair (.int .i64) (.pair .str (.pair .str (.pair (.int .i64) (.pair (.int .i64) .unit))))))) (.pair (.int .i64) (.pair (.int .i64) .unit)))) .unit)] [] [.pair (.slice (.pair (.pair (.int .i64) (.pair .bool (.pair (.int .i64) (.pair .str (.pair .str (.pair (.int .i64) (.pair (.int .i64) .unit))))))) (.pair (.int .i64) (.pair (.int .i64) .unit)))) .unit] (fun x => F42 n) := by
  rintro _ r h
  exact fn_sound lay0_ok mixed (rvs := [.tmp 0]) (by kernel_rfl : Tryd.prog.funcs[42]? = some Tryd.f42) (by kernel_rfl : Tryd.f42.body = some c42) (by kernel_rfl) (by kernel_rfl) (by kernel_rfl) (GO42 n) noInl_ok (K42 n) ((E42 n).symm.trans h)

/-! ### (*orthoepy/arena.Arena).Add -/

def F60 (n : Nat) (a0 : (List ((Int × (Bool × (Int × (List UInt8 × (List UInt8 × (Int × (Int × Unit))))))) × (Int × (Int × Unit))) × Unit)) (a1 : Int) (a2 : (Int × (Bool × (Int × (List UInt8 × (List UInt8 × (Int × (Int × Unit)))))))) : Option ((List ((Int × (Bool × (Int × (List UInt8 × (List UInt8 × (Int × (Int × Unit))))))) × (Int × (Int × Unit))) × Unit) × Int) :=
  (bif (decide (a1 < 0)) then
    (bif (decide (a2.1 < 1)) then
      some (a0, (-1))
    else
      (bif (decide (a2.1 > 6)) then
        some (a0, (-1))
      else
        (bif (a1 != (-1)) then
          some (a0, (-1))
        else
          (bif (decide (((a0.1).length : Int) > 0)) then
            some (a0, (-1))
          else
            (match F76 n a2 0 with
            | some r1 =>
            (bif (decide (((a0.1).length + (([(r1, (a1, ((-1), ())))] : List ((Int × (Bool × (Int × (List UInt8 × (List UInt8 × (Int × (Int × Unit))))))) × (Int × (Int × Unit))))).length) * 88 ≤ maxRoom) && decide ((a0.1).length + (([(r1, (a1, ((-1), ())))] : List ((Int × (Bool × (Int × (List UInt8 × (List UInt8 × (Int × (Int × Unit))))))) × (Int × (Int × Unit))))).length ≤ maxRoom)) then
            some (((a0.1 ++ ([(r1, (a1, ((-1), ())))] : List ((Int × (Bool × (Int × (List UInt8 × (List UInt8 × (Int × (Int × Unit))))))) × (Int × (Int × Unit))))), ()), ((a0.1).length : Int))
            else none)
            | none => none)))))
  else
    (bif (decide (a1 ≥ ((a0.1).length : Int))) then
      (bif (decide (a2.1 < 1)) then
        some (a0, (-1))
      else
        (bif (decide (a2.1 > 6)) then
          some (a0, (-1))
        else
          (bif (a1 != (-1)) then
            some (a0, (-1))
          else
            (bif (decide (((a0.1).length : Int) > 0)) then
              some (a0, (-1))
            else
              (match F76 n a2 0 with
              | some r2 =>
              (bif (decide (((a0.1).length + (([(r2, (a1, ((-1), ())))] : List ((Int × (Bool × (Int × (List UInt8 × (List UInt8 × (Int × (Int × Unit))))))) × (Int × (Int × Unit))))).length) * 88 ≤ maxRoom) && decide ((a0.1).length + (([(r2, (a1, ((-1), ())))] : List ((Int × (Bool × (Int × (List UInt8 × (List UInt8 × (Int × (Int × Unit))))))) × (Int × (Int × Unit))))).length ≤ maxRoom)) then
              some (((a0.1 ++ ([(r2, (a1, ((-1), ())))] : List ((Int × (Bool × (Int × (List UInt8 × (List UInt8 × (Int × (Int × Unit))))))) × (Int × (Int × Unit))))), ()), ((a0.1).length : Int))
              else none)
              | none => none)))))
    else
      (bif inB a1 (a0.1).length then
      (bif (decide (a2.1 < 1)) then
        some (a0, (-1))
      else
        (bif (decide (a2.1 > 6)) then
          some (a0, (-1))
        else
          (match F75 n ((a0.1).getD (Int.toNat a1) (Ty.dflt (.pair (.pair (.int .i64) (.pair .bool (.pair (.int .i64) (.pair .str (.pair .str (.pair (.int .i64) (.pair (.int .i64) .unit))))))) (.pair (.int .i64) (.pair (.int .i64) .unit))))).1.1 with
          | some r3 =>
          (bif (!r3) then
            some (a0, (-1))
          else
            (bif (((a0.1).getD (Int.toNat a1) (Ty.dflt (.pair (.pair (.int .i64) (.pair .bool (.pair (.int .i64) (.pair .str (.pair .str (.pair (.int .i64) (.pair (.int .i64) .unit))))))) (.pair (.int .i64) (.pair (.int .i64) .unit))))).2.2.1 == (-1)) then
              (match F76 n a2 ((a0.1).getD (Int.toNat a1) (Ty.dflt (.pair (.pair (.int .i64) (.pair .bool (.pair (.int .i64) (.pair .str (.pair .str (.pair (.int .i64) (.pair (.int .i64) .unit))))))) (.pair (.int .i64) (.pair (.int .i64) .unit))))).1.1 with
              | some r4 =>
              (bif (decide (((((((a0.1).set (Int.toNat a1) ((((a0.1).getD (Int.toNat a1) (Ty.dflt (.pair (.pair (.int .i64) (.pair .bool (.pair (.int .i64) (.pair .str (.pair .str (.pair (.int .i64) (.pair (.int .i64) .unit))))))) (.pair (.int .i64) (.pair (.int .i64) .unit))))).1.1, (((a0.1).getD (Int.toNat a1) (Ty.dflt (.pair (.pair (.int .i64) (.pair .bool (.pair (.int .i64) (.pair .str (.pair .str (.pair (.int .i64) (.pair (.int .i64) .unit))))))) (.pair (.int .i64) (.pair (.int .i64) .unit))))).1.2.1, (((a0.1).getD (Int.toNat a1) (Ty.dflt (.pair (.pair (.int .i64) (.pair .bool (.pair (.int .i64) (.pair .str (.pair .str (.pair (.int .i64) (.pair (.int .i64) .unit))))))) (.pair (.int .i64) (.pair (.int .i64) .unit))))).1.2.2.1, (((a0.1).getD (Int.toNat a1) (Ty.dflt (.pair (.pair (.int .i64) (.pair .bool (.pair (.int .i64) (.pair .str (.pair .str (.pair (.int .i64) (.pair (.int .i64) .unit))))))) (.pair (.int .i64) (.pair (.int .i64) .unit))))).1.2.2.2.1, (((a0.1).getD (Int.toNat a1) (Ty.dflt (.pair (.pair (.int .i64) (.pair .bool (.pair (.int .i64) (.pair .str (.pair .str (.pair (.int .i64) (.pair (.int .i64) .unit))))))) (.pair (.int .i64) (.pair (.int .i64) .unit))))).1.2.2.2.2.1, (((a0.1).length : Int), ((a0.1).getD (Int.toNat a1) (Ty.dflt (.pair (.pair (.int .i64) (.pair .bool (.pair (.int .i64) (.pair .str (.pair .str (.pair (.int .i64) (.pair (.int .i64) .unit))))))) (.pair (.int .i64) (.pair (.int .i64) .unit))))).1.2.2.2.2.2.2)))))), ((a0.1).getD (Int.toNat a1) (Ty.dflt (.pair (.pair (.int .i64) (.pair .bool (.pair (.int .i64) (.pair .str (.pair .str (.pair (.int .i64) (.pair (.int .i64) .unit))))))) (.pair (.int .i64) (.pair (.int .i64) .unit))))).2))).set (Int.toNat a1) (((((a0.1).set (Int.toNat a1) ((((a0.1).getD (Int.toNat a1) (Ty.dflt (.pair (.pair (.int .i64) (.pair .bool (.pair (.int .i64) (.pair .str (.pair .str (.pair (.int .i64) (.pair (.int .i64) .unit))))))) (.pair (.int .i64) (.pair (.int .i64) .unit))))).1.1, (((a0.1).getD (Int.toNat a1) (Ty.dflt (.pair (.pair (.int .i64) (.pair .bool (.pair (.int .i64) (.pair .str (.pair .str (.pair (.int .i64) (.pair (.int .i64) .unit))))))) (.pair (.int .i64) (.pair (.int .i64) .unit))))).1.2.1, (((a0.1).getD (Int.toNat a1) (Ty.dflt (.pair (.pair (.int .i64) (.pair .bool (.pair (.int .i64) (.pair .str (.pair .str (.pair (.int .i64) (.pair (.int .i64) .unit))))))) (.pair (.int .i64) (.pair (.int .i64) .unit))))).1.2.2.1, (((a0.1).getD (Int.toNat a1) (Ty.dflt (.pair (.pair (.int .i64) (.pair .bool (.pair (.int .i64) (.pair .str (.pair .str (.pair (.int .i64) (.pair (.int .i64) .unit))))))) (.pair (.int .i64) (.pair (.int .i64) .unit))))).1.2.2.2.1, (((a0.1).getD (Int.toNat a1) (Ty.dflt (.pair (.pair (.int .i64) (.pair .bool (.pair (.int .i64) (.pair .str (.pair .str (.pair (.int .i64) (.pair (.int .i64) .unit))))))) (.pair (.int .i64) (.pair (.int .i64) .unit))))).1.2.2.2.2.1, (((a0.1).length : Int), ((a0.1).getD (Int.toNat a1) (Ty.dflt (.pair (.pair (.int .i64) (.pair .bool (.pair (.int .i64) (.pair .str (.pair .str (.pair (.int .i64) (.pair (.int .i64) .unit))))))) (.pair (.int .i64) (.pair (.int .i64) .unit))))).1.2.2.2.2.2.2)))))), ((a0.1).getD (Int.toNat a1) (Ty.dflt (.pair (.pair (.int .i64) (.pair .bool (.pair (.int .i64) (.pair .str (.pair .str (.pair (.int .i64) (.pair (.int .i64) .unit))))))) (.pair (.int .i64) (.pair (.int .i64) .unit))))).2))).getD (Int.toNat a1) (Ty.dflt (.pair (.pair (.int .i64) (.pair .bool (.pair (.int .i64) (.pair .str (.pair .str (.pair (.int .i64) (.pair (.int .i64) .unit))))))) (.pair (.int .i64) (.pair (.int .i64) .unit))))).1, (((((a0.1).set (Int.toNat a1) ((((a0.1).getD (Int.toNat a1) (Ty.dflt (.pair (.pair (.int .i64) (.pair .bool (.pair (.int .i64) (.pair .str (.pair .str (.pair (.int .i64) (.pair (.int .i64) .unit))))))) (.pair (.int .i64) (.pair (.int .i64) .unit))))).1.1, (((a0.1).getD (Int.toNat a1) (Ty.dflt (.pair (.pair (.int .i64) (.pair .bool (.pair (.int .i64) (.pair .str (.pair .str (.pair (.int .i64) (.pair (.int .i64) .unit))))))) (.pair (.int .i64) (.pair (.int .i64) .unit))))).1.2.1, (((a0.1).getD (Int.toNat a1) (Ty.dflt (.pair (.pair (.int .i64) (.pair .bool (.pair (.int .i64) (.pair .str (.pair .str (.pair (.int .i64) (.pair (.int .i64) .unit))))))) (.pair (.int .i64) (.pair (.int .i64) .unit))))).1.2.2.1, (((a0.1).getD (Int.toNat a1) (Ty.dflt (.pair (.pair (.int .i64) (.pair .bool (.pair (.int .i64) (.pair .str (.pair .str (.pair (.int .i64) (.pair (.int .i64) .unit))))))) (.pair (.int .i64) (.pair (.int .i64) .unit))))).1.2.2.2.1, (((a0.1).getD (Int.toNat a1) (Ty.dflt (.pair (.pair (.int .i64) (.pair .bool (.pair (.int .i64) (.pair .str (.pair .str (.pair (.int .i64) (.pair (.int .i64) .unit))))))) (.pair (.int .i64) (.pair (.int .i64) .unit))))).1.2.2.2.2.1, (((a0.1).length : Int), ((a0.1).getD (Int.toNat a1) (Ty.dflt (.pair (.pair (.int .i64) (.pair .bool (.pair (.int .i64) (.pair .str (.pair .str (.pair (.int .i64) (.pair (.int .i64) .unit))))))) (.pair (.int .i64) (.pair (.int .i64) .unit))))).1.2.2.2.2.2.2)))))), ((a0.1).getD (Int.toNat a1) (Ty.dflt (.pair (.pair (.int .i64) (.pair .bool (.pair (.int .i64) (.pair .str (.pair .str (.pair (.int .i64) (.pair (.int .i64) .unit))))))) (.pair (.int .i64) (.pair (.int .i64) .unit))))).2))).getD (Int.toNat a1) (Ty.dflt (.pair (.pair (.int .i64) (.pair .bool (.pair (.int .i64) (.pair .str (.pair .str (.pair (.int .i64) (.pair (.int .i64) .unit))))))) (.pair (.int .i64) (.pair (.int .i64) .unit))))).2.1, (((a0.1).length : Int), ()))))).length + (([(r4, (a1, ((-1), ())))] : List ((Int × (Bool × (Int × (List UInt8 × (List UInt8 × (Int × (Int × Unit))))))) × (Int × (Int × Unit))))).length) * 88 ≤ maxRoom) && decide ((((((a0.1).set (Int.toNat a1) ((((a0.1).getD (Int.toNat a1) (Ty.dflt (.pair (.pair (.int .i64) (.pair .bool (.pair (.int .i64) (.pair .str (.pair .str (.pair (.int .i64) (.pair (.int .i64) .unit))))))) (.pair (.int .i64) (.pair (.int .i64) .unit))))).1.1, (((a0.1).getD (Int.toNat a1) (Ty.dflt (.pair (.pair (.int .i64) (.pair .bool (.pair (.int .i64) (.pair .str (.pair .str (.pair (.int .i64) (.pair (.int .i64) .unit))))))) (.pair (.int .i64) (.pair (.int .i64) .unit))))).1.2.1, (((a0.1).getD (Int.toNat a1) (Ty.dflt (.pair (.pair (.int .i64) (.pair .bool (.pair (.int .i64) (.pair .str (.pair .str (.pair (.int .i64) (.pair (.int .i64) .unit))))))) (.pair (.int .i64) (.pair (.int .i64) .unit))))).1.2.2.1, (((a0.1).getD (Int.toNat a1) (Ty.dflt (.pair (.pair (.int .i64) (.pair .bool (.pair (.int .i64) (.pair .str (.pair .str (.pair (.int .i64) (.pair (.int .i64) .unit))))))) (.pair (.int .i64) (.pair (.int .i64) .unit))))).1.2.2.2.1, (((a0.1).getD (Int.toNat a1) (Ty.dflt (.pair (.pair (.int .i64) (.pair .bool (.pair (.int .i64) (.pair .str (.pair .str (.pair (.int .i64) (.pair (.int .i64) .unit))))))) (.pair (.int .i64) (.pair (.int .i64) .unit))))).1.2.2.2.2.1, (((a0.1).length : Int), ((a0.1).getD (Int.toNat a1) (Ty.dflt (.pair (.pair (.int .i64) (.pair .bool (.pair (.int .i64) (.pair .str (.pair .str (.pair (.int .i64) (.pair (.int .i64) .unit))))))) (.pair (.int .i64) (.pair (.int .i64) .unit))))).1.2.2.2.2.2.2)))))), ((a0.1).getD (Int.toNat a1) (Ty.dflt (.pair (.pair (.int .i64) (.pair .bool (.pair (.int .i64) (.pair .str (.pair .str (.pair (.int .i64) (.pair (.int .i64) .unit))))))) (.pair (.int .i64) (.pair (.int .i64) .unit))))).2))).set (Int.toNat a1) (((((a0.1).set (Int.toNat a1) ((((a0.1).getD (Int.toNat a1) (Ty.dflt (.pair (.pair (.int .i64) (.pair .bool (.pair (.int .i64) (.pair .str (.pair .str (.pair (.int .i64) (.pair (.int .i64) .unit))))))) (.pair (.int .i64) (.pair (.int .i64) .unit))))).1.1, (((a0.1).getD (Int.toNat a1) (Ty.dflt (.pair (.pair (.int .i64) (.pair .bool (.pair (.int .i64) (.pair .str (.pair .str (.pair (.int .i64) (.pair (.int .i64) .unit))))))) (.pair (.int .i64) (.pair (.int .i64) .unit))))).1.2.1, (((a0.1).getD (Int.toNat a1) (Ty.dflt (.pair (.pair (.int .i64) (.pair .bool (.pair (.int .i64) (.pair .str (.pair .str (.pair (.int .i64) (.pair (.int .i64) .unit))))))) (.pair (.int .i64) (.pair (.int .i64) .unit))))).1.2.2.1, (((a0.1).getD (Int.toNat a1) (Ty.dflt (.pair (.pair (.int .i64) (.pair .bool (.pair (.int .i64) (.pair .str (.pair .str (.pair (.int .i64) (.pair (.int .i64) .unit))))))) (.pair (.int .i64) (.pair (.int .i64) .unit))))).1.2.2.2.1, (((a0.1).getD (Int.toNat a1) (Ty.dflt (.pair (.pair (.int .i64) (.pair .bool (.pair (.int .i64) (.pair .str (.pair .str (.pair (.int .i64) (.pair (.int .i64) .unit))))))) (.pair (.int .i64) (.pair (.int .i64) .unit))))).1.2.2.2.2.1, (((a0.1).length : Int), ((a0.1).getD (Int.toNat a1) (Ty.dflt (.pair (.pair (.int .i64) (.pair .bool (.pair (.int .i64) (.pair .str (.pair .str (.pair (.int .i64) (.pair (.int .i64) .unit))))))) (.pair (.int .i64) (.pair (.int .i64) .unit))))).1.2.2.2.2.2.2)))))), ((a0.1).getD (Int.toNat a1) (Ty.dflt (.pair (.pair (.int .i64) (.pair .bool (.pair (.int .i64) (.pair .str (.pair .str (.pair (.int .i64) (.pair (.int .i64) .unit))))))) (.pair (.int .i64) (.pair (.int .i64) .unit))))).2))).getD (Int.toNat a1) (Ty.dflt (.pair (.pair (.int .i64) (.pair .bool (.pair (.int .i64) (.pair .str (.pair .str (.pair (.int .i64) (.pair (.int .i64) .unit))))))) (.pair (.int .i64) (.pair (.int .i64) .unit))))).1, (((((a0.1).set (Int.toNat a1) ((((a0.1).getD (Int.toNat a1) (Ty.dflt (.pair (.pair (.int .i64) (.pair .bool (.pair (.int .i64) (.pair .str (.pair .str (.pair (.int .i64) (.pair (.int .i64) .unit))))))) (.pair (.int .i64) (.pair (.int .i64) .unit))))).1.1, (((a0.1).getD (Int.toNat a1) (Ty.dflt (.pair (.pair (.int .i64) (.pair .bool (.pair (.int .i64) (.pair .str (.pair .str (.pair (.int .i64) (.pair (.int .i64) .unit))))))) (.pair (.int .i64) (.pair (.int .i64) .unit))))).1.2.1, (((a0.1).getD (Int.toNat a1) (Ty.dflt (.pair (.pair (.int .i64) (.pair .bool (.pair (.int .i64) (.pair .str (.pair .str (.pair (.int .i64) (.pair (.int .i64) .unit))))))) (.pair (.int .i64) (.pair (.int .i64) .unit))))).1.2.2.1, (((a0.1).getD (Int.toNat a1) (Ty.dflt (.pair (.pair (.int .i64) (.pair .bool (.pair (.int .i64) (.pair .str (.pair .str (.pair (.int .i64) (.pair (.int .i64) .unit))))))) (.pair (.int .i64) (.pair (.int .i64) .unit))))).1.2.2.2.1, (((a0.1).getD (Int.toNat a1) (Ty.dflt (.pair (.pair (.int .i64) (.pair .bool (.pair (.int .i64) (.pair .str (.pair .str (.pair (.int .i64) (.pair (.int .i64) .unit))))))) (.pair (.int .i64) (.pair (.int .i64) .unit))))).1.2.2.2.2.1, (((a0.1).length : Int), ((a0.1).getD (Int.toNat a1) (Ty.dflt (.pair (.pair (.int .i64) (.pair .bool (.pair (.int .i64) (.pair .str (.pair .str (.pair (.int .i64) (.pair (.int .i64) .unit))))))) (.pair (.int .i64) (.pair (.int .i64) .unit))))).1.2.2.2.2.2.2)))))), ((a0.1).getD (Int.toNat a1) (Ty.dflt (.pair (.pair (.int .i64) (.pair .bool (.pair (.int .i64) (.pair .str (.pair .str (.pair (.int .i64) (.pair (.int .i64) .unit))))))) (.pair (.int .i64) (.pair (.int .i64) .unit))))).2))).getD (Int.toNat a1) (Ty.dflt (.pair (.pair (.int .i64) (.pair .bool (.pair (.int .i64) (.pair .str (.pair .str (.pair (.int .i64) (.pair (.int .i64) .unit))))))) (.pair (.int .i64) (.pair (.int .i64) .unit))))).2.1, (((a0.1).length : Int), ()))))).length + (([(r4, (a1, ((-1), ())))] : List ((Int × (Bool × (Int × (List UInt8 × (List UInt8 × (Int × (Int × Unit))))))) × (Int × (Int × Unit))))).length ≤ maxRoom)) then
              some (((((((a0.1).set (Int.toNat a1) ((((a0.1).getD (Int.toNat a1) (Ty.dflt (.pair (.pair (.int .i64) (.pair .bool (.pair (.int .i64) (.pair .str (.pair .str (.pair (.int .i64) (.pair (.int .i64) .unit))))))) (.pair (.int .i64) (.pair (.int .i64) .unit))))).1.1, (((a0.1).getD (Int.toNat a1) (Ty.dflt (.pair (.pair (.int .i64) (.pair .bool (.pair (.int .i64) (.pair .str (.pair .str (.pair (.int .i64) (.pair (.int .i64) .unit))))))) (.pair (.int .i64) (.pair (.int .i64) .unit))))).1.2.1, (((a0.1).getD (Int.toNat a1) (Ty.dflt (.pair (.pair (.int .i64) (.pair .bool (.pair (.int .i64) (.pair .str (.pair .str (.pair (.int .i64) (.pair (.int .i64) .unit))))))) (.pair (.int .i64) (.pair (.int .i64) .unit))))).1.2.2.1, (((a0.1).getD (Int.toNat a1) (Ty.dflt (.pair (.pair (.int .i64) (.pair .bool (.pair (.int .i64) (.pair .str (.pair .str (.pair (.int .i64) (.pair (.int .i64) .unit))))))) (.pair (.int .i64) (.pair (.int .i64) .unit))))).1.2.2.2.1, (((a0.1).getD (Int.toNat a1) (Ty.dflt (.pair (.pair (.int .i64) (.pair .bool (.pair (.int .i64) (.pair .str (.pair .str (.pair (.int .i64) (.pair (.int .i64) .unit))))))) (.pair (.int .i64) (.pair (.int .i64) .unit))))).1.2.2.2.2.1, (((a0.1).length : Int), ((a0.1).getD (Int.toNat a1) (Ty.dflt (.pair (.pair (.int .i64) (.pair .bool (.pair (.int .i64) (.pair .str (.pair .str (.pair (.int .i64) (.pair (.int .i64) .unit))))))) (.pair (.int .i64) (.pair (.int .i64) .unit))))).1.2.2.2.2.2.2)))))), ((a0.1).getD (Int.toNat a1) (Ty.dflt (.pair (.pair (.int .i64) (.pair .bool (.pair (.int .i64) (.pair .str (.pair .str (.pair (.int .i64) (.pair (.int .i64) .unit))))))) (.pair (.int .i64) (.pair (.int .i64) .unit))))).2))).set (Int.toNat a1) (((((a0.1).set (Int.toNat a1) ((((a0.1).getD (Int.toNat a1) (Ty.dflt (.pair (.pair (.int .i64) (.pair .bool (.pair (.int .i64) (.pair .str (.pair .str (.pair (.int .i64) (.pair (.int .i64) .unit))))))) (.pair (.int .i64) (.pair (.int .i64) .unit))))).1.1, (((a0.1).getD (Int.toNat a1) (Ty.dflt (.pair (.pair (.int .i64) (.pair .bool (.pair (.int .i64) (.pair .str (.pair .str (.pair (.int .i64) (.pair (.int .i64) .unit))))))) (.pair (.int .i64) (.pair (.int .i64) .unit))))).1.2.1, (((a0.1).getD (Int.toNat a1) (Ty.dflt (.pair (.pair (.int .i64) (.pair .bool (.pair (.int .i64) (.pair .str (.pair .str (.pair (.int .i64) (.pair (.int .i64) .unit))))))) (.pair (.int .i64) (.pair (.int .i64) .unit))))).1.2.2.1, (((a0.1).getD (Int.toNat a1) (Ty.dflt (.pair (.pair (.int .i64) (.pair .bool (.pair (.int .i64) (.pair .str (.pair .str (.pair (.int .i64) (.pair (.int .i64) .unit))))))) (.pair (.int .i64) (.pair (.int .i64) .unit))))).1.2.2.2.1, (((a0.1).getD (Int.toNat a1) (Ty.dflt (.pair (.pair (.int .i64) (.pair .bool (.pair (.int .i64) (.pair .str (.pair .str (.pair (.int .i64) (.pair (.int .i64) .unit))))))) (.pair (.int .i64) (.pair (.int .i64) .unit))))).1.2.2.2.2.1, (((a0.1).length : Int), ((a0.1).getD (Int.toNat a1) (Ty.dflt (.pair (.pair (.int .i64) (.pair .bool (.pair (.int .i64) (.pair .str (.pair .str (.pair (.int .i64) (.pair (.int .i64) .unit))))))) (.pair (.int .i64) (.pair (.int .i64) .unit))))).1.2.2.2.2.2.2)))))), ((a0.1).getD (Int.toNat a1) (Ty.dflt (.pair (.pair (.int .i64) (.pair .bool (.pair (.int .i64) (.pair .str (.pair .str (.pair (.int .i64) (.pair (.int .i64) .unit))))))) (.pair (.int .i64) (.pair (.int .i64) .unit))))).2))).getD (Int.toNat a1) (Ty.dflt (.pair (.pair (.int .i64) (.pair .bool (.pair (.int .i64) (.pair .str (.pair .str (.pair (.int .i64) (.pair (.int .i64) .unit))))))) (.pair (.int .i64) (.pair (.int .i64) .unit))))).1, (((((a0.1).set (Int.toNat a1) ((((a0.1).getD (Int.toNat a1) (Ty.dflt (.pair (.pair (.int .i64) (.pair .bool (.pair (.int .i64) (.pair .str (.pair .str (.pair (.int .i64) (.pair (.int .i64) .unit))))))) (.pair (.int .i64) (.pair (.int .i64) .unit))))).1.1, (((a0.1).getD (Int.toNat a1) (Ty.dflt (.pair (.pair (.int .i64) (.pair .bool (.pair (.int .i64) (.pair .str (.pair .str (.pair (.int .i64) (.pair (.int .i64) .unit))))))) (.pair (.int .i64) (.pair (.int .i64) .unit))))).1.2.1, (((a0.1).getD (Int.toNat a1) (Ty.dflt (.pair (.pair (.int .i64) (.pair .bool (.pair (.int .i64) (.pair .str (.pair .str (.pair (.int .i64) (.pair (.int .i64) .unit))))))) (.pair (.int .i64) (.pair (.int .i64) .unit))))).1.2.2.1, (((a0.1).getD (Int.toNat a1) (Ty.dflt (.pair (.pair (.int .i64) (.pair .bool (.pair (.int .i64) (.pair .str (.pair .str (.pair (.int .i64) (.pair (.int .i64) .unit))))))) (.pair (.int .i64) (.pair (.int .i64) .unit))))).1.2.2.2.1, (((a0.1).getD (Int.toNat a1) (Ty.dflt (.pair (.pair (.int .i64) (.pair .bool (.pair (.int .i64) (.pair .str (.pair .str (.pair (.int .i64) (.pair (.int .i64) .unit))))))) (.pair (.int .i64) (.pair (.int .i64) .unit))))).1.2.2.2.2.1, (((a0.1).length : Int), ((a0.1).getD (Int.toNat a1) (Ty.dflt (.pair (.pair (.int .i64) (.pair .bool (.pair (.int .i64) (.pair .str (.pair .str (.pair (.int .i64) (.pair (.int .i64) .unit))))))) (.pair (.int .i64) (.pair (.int .i64) .unit))))).1.2.2.2.2.2.2)))))), ((a0.1).getD (Int.toNat a1) (Ty.dflt (.pair (.pair (.int .i64) (.pair .bool (.pair (.int .i64) (.pair .str (.pair .str (.pair (.int .i64) (.pair (.int .i64) .unit))))))) (.pair (.int .i64) (.pair (.int .i64) .unit))))).2))).getD (Int.toNat a1) (Ty.dflt (.pair (.pair (.int .i64) (.pair .bool (.pair (.int .i64) (.pair .str (.pair .str (.pair (.int .i64) (.pair (.int .i64) .unit))))))) (.pair (.int .i64) (.pair (.int .i64) .unit))))).2.1, (((a0.1).length : Int), ())))) ++ ([(r4, (a1, ((-1), ())))] : List ((Int × (Bool × (Int × (List UInt8 × (List UInt8 × (Int × (Int × Unit))))))) × (Int × (Int × Unit))))), ()), ((a0.1).length : Int))
              else none)
              | none => none)
            else
              (bif inB ((a0.1).getD (Int.toNat a1) (Ty.dflt (.pair (.pair (.int .i64) (.pair .bool (.pair (.int .i64) (.pair .str (.pair .str (.pair (.int .i64) (.pair (.int .i64) .unit))))))) (.pair (.int .i64) (.pair (.int .i64) .unit))))).2.2.1 (a0.1).length then
              (match F76 n a2 ((a0.1).getD (Int.toNat a1) (Ty.dflt (.pair (.pair (.int .i64) (.pair .bool (.pair (.int .i64) (.pair .str (.pair .str (.pair (.int .i64) (.pair (.int .i64) .unit))))))) (.pair (.int .i64) (.pair (.int .i64) .unit))))).1.1 with
              | some r5 =>
              (bif (decide (((((((a0.1).set (Int.toNat ((a0.1).getD (Int.toNat a1) (Ty.dflt (.pair (.pair (.int .i64) (.pair .bool (.pair (.int .i64) (.pair .str (.pair .str (.pair (.int .i64) (.pair (.int .i64) .unit))))))) (.pair (.int .i64) (.pair (.int .i64) .unit))))).2.2.1) ((((a0.1).getD (Int.toNat ((a0.1).getD (Int.toNat a1) (Ty.dflt (.pair (.pair (.int .i64) (.pair .bool (.pair (.int .i64) (.pair .str (.pair .str (.pair (.int .i64) (.pair (.int .i64) .unit))))))) (.pair (.int .i64) (.pair (.int .i64) .unit))))).2.2.1) (Ty.dflt (.pair (.pair (.int .i64) (.pair .bool (.pair (.int .i64) (.pair .str (.pair .str (.pair (.int .i64) (.pair (.int .i64) .unit))))))) (.pair (.int .i64) (.pair (.int .i64) .unit))))).1.1, (((a0.1).getD (Int.toNat ((a0.1).getD (Int.toNat a1) (Ty.dflt (.pair (.pair (.int .i64) (.pair .bool (.pair (.int .i64) (.pair .str (.pair .str (.pair (.int .i64) (.pair (.int .i64) .unit))))))) (.pair (.int .i64) (.pair (.int .i64) .unit))))).2.2.1) (Ty.dflt (.pair (.pair (.int .i64) (.pair .bool (.pair (.int .i64) (.pair .str (.pair .str (.pair (.int .i64) (.pair (.int .i64) .unit))))))) (.pair (.int .i64) (.pair (.int .i64) .unit))))).1.2.1, (((a0.1).getD (Int.toNat ((a0.1).getD (Int.toNat a1) (Ty.dflt (.pair (.pair (.int .i64) (.pair .bool (.pair (.int .i64) (.pair .str (.pair .str (.pair (.int .i64) (.pair (.int .i64) .unit))))))) (.pair (.int .i64) (.pair (.int .i64) .unit))))).2.2.1) (Ty.dflt (.pair (.pair (.int .i64) (.pair .bool (.pair (.int .i64) (.pair .str (.pair .str (.pair (.int .i64) (.pair (.int .i64) .unit))))))) (.pair (.int .i64) (.pair (.int .i64) .unit))))).1.2.2.1, (((a0.1).getD (Int.toNat ((a0.1).getD (Int.toNat a1) (Ty.dflt (.pair (.pair (.int .i64) (.pair .bool (.pair (.int .i64) (.pair .str (.pair .str (.pair (.int .i64) (.pair (.int .i64) .unit))))))) (.pair (.int .i64) (.pair (.int .i64) .unit))))).2.2.1) (Ty.dflt (.pair (.pair (.int .i64) (.pair .bool (.pair (.int .i64) (.pair .str (.pair .str (.pair (.int .i64) (.pair (.int .i64) .unit))))))) (.pair (.int .i64) (.pair (.int .i64) .unit))))).1.2.2.2.1, (((a0.1).getD (Int.toNat ((a0.1).getD (Int.toNat a1) (Ty.dflt (.pair (.pair (.int .i64) (.pair .bool (.pair (.int .i64) (.pair .str (.pair .str (.pair (.int .i64) (.pair (.int .i64) .unit))))))) (.pair (.int .i64) (.pair (.int .i64) .unit))))).2.2.1) (Ty.dflt (.pair (.pair (.int .i64) (.pair .bool (.pair (.int .i64) (.pair .str (.pair .str (.pair (.int .i64) (.pair (.int .i64) .unit))))))) (.pair (.int .i64) (.pair (.int .i64) .unit))))).1.2.2.2.2.1, (((a0.1).getD (Int.toNat ((a0.1).getD (Int.toNat a1) (Ty.dflt (.pair (.pair (.int .i64) (.pair .bool (.pair (.int .i64) (.pair .str (.pair .str (.pair (.int .i64) (.pair (.int .i64) .unit))))))) (.pair (.int .i64) (.pair (.int .i64) .unit))))).2.2.1) (Ty.dflt (.pair (.pair (.int .i64) (.pair .bool (.pair (.int .i64) (.pair .str (.pair .str (.pair (.int .i64) (.pair (.int .i64) .unit))))))) (.pair (.int .i64) (.pair (.int .i64) .unit))))).1.2.2.2.2.2.1, (((a0.1).length : Int), ()))))))), ((a0.1).getD (Int.toNat ((a0.1).getD (Int.toNat a1) (Ty.dflt (.pair (.pair (.int .i64) (.pair .bool (.pair (.int .i64) (.pair .str (.pair .str (.pair (.int .i64) (.pair (.int .i64) .unit))))))) (.pair (.int .i64) (.pair (.int .i64) .unit))))).2.2.1) (Ty.dflt (.pair (.pair (.int .i64) (.pair .bool (.pair (.int .i64) (.pair .str (.pair .str (.pair (.int .i64) (.pair (.int .i64) .unit))))))) (.pair (.int .i64) (.pair (.int .i64) .unit))))).2))).set (Int.toNat a1) (((((a0.1).set (Int.toNat ((a0.1).getD (Int.toNat a1) (Ty.dflt (.pair (.pair (.int .i64) (.pair .bool (.pair (.int .i64) (.pair .str (.pair .str (.pair (.int .i64) (.pair (.int .i64) .unit))))))) (.pair (.int .i64) (.pair (.int .i64) .unit))))).2.2.1) ((((a0.1).getD (Int.toNat ((a0.1).getD (Int.toNat a1) (Ty.dflt (.pair (.pair (.int .i64) (.pair .bool (.pair (.int .i64) (.pair .str (.pair .str (.pair (.int .i64) (.pair (.int .i64) .unit))))))) (.pair (.int .i64) (.pair (.int .i64) .unit))))).2.2.1) (Ty.dflt (.pair (.pair (.int .i64) (.pair .bool (.pair (.int .i64) (.pair .str (.pair .str (.pair (.int .i64) (.pair (.int .i64) .unit))))))) (.pair (.int .i64) (.pair (.int .i64) .unit))))).1.1, (((a0.1).getD (Int.toNat ((a0.1).getD (Int.toNat a1) (Ty.dflt (.pair (.pair (.int .i64) (.pair .bool (.pair (.int .i64) (.pair .str (.pair .str (.pair (.int .i64) (.pair (.int .i64) .unit))))))) (.pair (.int .i64) (.pair (.int .i64) .unit))))).2.2.1) (Ty.dflt (.pair (.pair (.int .i64) (.pair .bool (.pair (.int .i64) (.pair .str (.pair .str (.pair (.int .i64) (.pair (.int .i64) .unit))))))) (.pair (.int .i64) (.pair (.int .i64) .unit))))).1.2.1, (((a0.1).getD (Int.toNat ((a0.1).getD (Int.toNat a1) (Ty.dflt (.pair (.pair (.int .i64) (.pair .bool (.pair (.int .i64) (.pair .str (.pair .str (.pair (.int .i64) (.pair (.int .i64) .unit))))))) (.pair (.int .i64) (.pair (.int .i64) .unit))))).2.2.1) (Ty.dflt (.pair (.pair (.int .i64) (.pair .bool (.pair (.int .i64) (.pair .str (.pair .str (.pair (.int .i64) (.pair (.int .i64) .unit))))))) (.pair (.int .i64) (.pair (.int .i64) .unit))))).1.2.2.1, (((a0.1).getD (Int.toNat ((a0.1).getD (Int.toNat a1) (Ty.dflt (.pair (.pair (.int .i64) (.pair .bool (.pair (.int .i64) (.pair .str (.pair .str (.pair (.int .i64) (.pair (.int .i64) .unit))))))) (.pair (.int .i64) (.pair (.int .i64) .unit))))).2.2.1) (Ty.dflt (.pair (.pair (.int .i64) (.pair .bool (.pair (.int .i64) (.pair .str (.pair .str (.pair (.int .i64) (.pair (.int .i64) .unit))))))) (.pair (.int .i64) (.pair (.int .i64) .unit))))).1.2.2.2.1, (((a0.1).getD (Int.toNat ((a0.1).getD (Int.toNat a1) (Ty.dflt (.pair (.pair (.int .i64) (.pair .bool (.pair (.int .i64) (.pair .str (.pair .str (.pair (.int .i64) (.pair (.int .i64) .unit))))))) (.pair (.int .i64) (.pair (.int .i64) .unit))))).2.2.1) (Ty.dflt (.pair (.pair (.int .i64) (.pair .bool (.pair (.int .i64) (.pair .str (.pair .str (.pair (.int .i64) (.pair (.int .i64) .unit))))))) (.pair (.int .i64) (.pair (.int .i64) .unit))))).1.2.2.2.2.1, (((a0.1).getD (Int.toNat ((a0.1).getD (Int.toNat a1) (Ty.dflt (.pair (.pair (.int .i64) (.pair .bool (.pair (.int .i64) (.pair .str (.pair .str (.pair (.int .i64) (.pair (.int .i64) .unit))))))) (.pair (.int .i64) (.pair (.int .i64) .unit))))).2.2.1) (Ty.dflt (.pair (.pair (.int .i64) (.pair .bool (.pair (.int .i64) (.pair .str (.pair .str (.pair (.int .i64) (.pair (.int .i64) .unit))))))) (.pair (.int .i64) (.pair (.int .i64) .unit))))).1.2.2.2.2.2.1, (((a0.1).length : Int), ()))))))), ((a0.1).getD (Int.toNat ((a0.1).getD (Int.toNat a1) (Ty.dflt (.pair (.pair (.int .i64) (.pair .bool (.pair (.int .i64) (.pair .str (.pair .str (.pair (.int .i64) (.pair (.int .i64) .unit))))))) (.pair (.int .i64) (.pair (.int .i64) .unit))))).2.2.1) (Ty.dflt (.pair (.pair (.int .i64) (.pair .bool (.pair (.int .i64) (.pair .str (.pair .str (.pair (.int .i64) (.pair (.int .i64) .unit))))))) (.pair (.int .i64) (.pair (.int .i64) .unit))))).2))).getD (Int.toNat a1) (Ty.dflt (.pair (.pair (.int .i64) (.pair .bool (.pair (.int .i64) (.pair .str (.pair .str (.pair (.int .i64) (.pair (.int .i64) .unit))))))) (.pair (.int .i64) (.pair (.int .i64) .unit))))).1, (((((a0.1).set (Int.toNat ((a0.1).getD (Int.toNat a1) (Ty.dflt (.pair (.pair (.int .i64) (.pair .bool (.pair (.int .i64) (.pair .str (.pair .str (.pair (.int .i64) (.pair (.int .i64) .unit))))))) (.pair (.int .i64) (.pair (.int .i64) .unit))))).2.2.1) ((((a0.1).getD (Int.toNat ((a0.1).getD (Int.toNat a1) (Ty.dflt (.pair (.pair (.int .i64) (.pair .bool (.pair (.int .i64) (.pair .str (.pair .str (.pair (.int .i64) (.pair (.int .i64) .unit))))))) (.pair (.int .i64) (.pair (.int .i64) .unit))))).2.2.1) (Ty.dflt (.pair (.pair (.int .i64) (.pair .bool (.pair (.int .i64) (.pair .str (.pair .str (.pair (.int .i64) (.pair (.int .i64) .unit))))))) (.pair (.int .i64) (.pair (.int .i64) .unit))))).1.1, (((a0.1).getD (Int.toNat ((a0.1).getD (Int.toNat a1) (Ty.dflt (.pair (.pair (.int .i64) (.pair .bool (.pair (.int .i64) (.pair .str (.pair .str (.pair (.int .i64) (.pair (.int .i64) .unit))))))) (.pair (.int .i64) (.pair (.int .i64) .unit))))).2.2.1) (Ty.dflt (.pair (.pair (.int .i64) (.pair .bool (.pair (.int .i64) (.pair .str (.pair .str (.pair (.int .i64) (.pair (.int .i64) .unit))))))) (.pair (.int .i64) (.pair (.int .i64) .unit))))).1.2.1, (((a0.1).getD (Int.toNat ((a0.1).getD (Int.toNat a1) (Ty.dflt (.pair (.pair (.int .i64) (.pair .bool (.pair (.int .i64) (.pair .str (.pair .str (.pair (.int .i64) (.pair (.int .i64) .unit))))))) (.pair (.int .i64) (.pair (.int .i64) .unit))))).2.2.1) (Ty.dflt (.pair (.pair (.int .i64) (.pair .bool (.pair (.int .i64) (.pair .str (.pair .str (.pair (.int .i64) (.pair (.int .i64) .unit))))))) (.pair (.int .i64) (.pair (.int .i64) .unit))))).1.2.2.1, (((a0.1).getD (Int.toNat ((a0.1).getD (Int.toNat a1) (Ty.dflt (.pair (.pair (.int .i64) (.pair .bool (.pair (.int .i64) (.pair .str (.pair .str (.pair (.int .i64) (.pair (.int .i64) .unit))))))) (.pair (.int .i64) (.pair (.int .i64) .unit))))).2.2.1) (Ty.dflt (.pair (.pair (.int .i64) (.pair .bool (.pair (.int .i64) (.pair .str (.pair .str (.pair (.int .i64) (.pair (.int .i64) .unit))))))) (.pair (.int .i64) (.pair (.int .i64) .unit))))).1.2.2.2.1, (((a0.1).getD (Int.toNat ((a0.1).getD (Int.toNat a1) (Ty.dflt (.pair (.pair (.int .i64) (.pair .bool (.pair (.int .i64) (.pair .str (.pair .str (.pair (.int .i64) (.pair (.int .i64) .unit))))))) (.pair (.int .i64) (.pair (.int .i64) .unit))))).2.2.1) (Ty.dflt (.pair (.pair (.int .i64) (.pair .bool (.pair (.int .i64) (.pair .str (.pair .str (.pair (.int .i64) (.pair (.int .i64) .unit))))))) (.pair (.int .i64) (.pair (.int .i64) .unit))))).1.2.2.2.2.1, (((a0.1).getD (Int.toNat ((a0.1).getD (Int.toNat a1) (Ty.dflt (.pair (.pair (.int .i64) (.pair .bool (.pair (.int .i64) (.pair .str (.pair .str (.pair (.int .i64) (.pair (.int .i64) .unit))))))) (.pair (.int .i64) (.pair (.int .i64) .unit))))).2.2.1) (Ty.dflt (.pair (.pair (.int .i64) (.pair .bool (.pair (.int .i64) (.pair .str (.pair .str (.pair (.int .i64) (.pair (.int .i64) .unit))))))) (.pair (.int .i64) (.pair (.int .i64) .unit))))).1.2.2.2.2.2.1, (((a0.1).length : Int), ()))))))), ((a0.1).getD (Int.toNat ((a0.1).getD (Int.toNat a1) (Ty.dflt (.pair (.pair (.int .i64) (.pair .bool (.pair (.int .i64) (.pair .str (.pair .str (.pair (.int .i64) (.pair (.int .i64) .unit))))))) (.pair (.int .i64) (.pair (.int .i64) .unit))))).2.2.1) (Ty.dflt (.pair (.pair (.int .i64) (.pair .bool (.pair (.int .i64) (.pair .str (.pair .str (.pair (.int .i64) (.pair (.int .i64) .unit))))))) (.pair (.int .i64) (.pair (.int .i64) .unit))))).2))).getD (Int.toNat a1) (Ty.dflt (.pair (.pair (.int .i64) (.pair .bool (.pair (.int .i64) (.pair .str (.pair .str (.pair (.int .i64) (.pair (.int .i64) .unit))))))) (.pair (.int .i64) (.pair (.int .i64) .unit))))).2.1, (((a0.1).length : Int), ()))))).length + (([(r5, (a1, ((-1), ())))] : List ((Int × (Bool × (Int × (List UInt8 × (List UInt8 × (Int × (Int × Unit))))))) × (Int × (Int × Unit))))).length) * 88 ≤ maxRoom) && decide ((((((a0.1).set (Int.toNat ((a0.1).getD (Int.toNat a1) (Ty.dflt (.pair (.pair (.int .i64) (.pair .bool (.pair (.int .i64) (.pair .str (.pair .str (.pair (.int .i64) (.pair (.int .i64) .unit))))))) (.pair (.int .i64) (.pair (.int .i64) .unit))))).2.2.1) ((((a0.1).getD (Int.toNat ((a0.1).getD (Int.toNat a1) (Ty.dflt (.pair (.pair (.int .i64) (.pair .bool (.pair (.int .i64) (.pair .str (.pair .str (.pair (.int .i64) (.pair (.int .i64) .unit))))))) (.pair (.int .i64) (.pair (.int .i64) .unit))))).2.2.1) (Ty.dflt (.pair (.pair (.int .i64) (.pair .bool (.pair (.int .i64) (.pair .str (.pair .str (.pair (.int .i64) (.pair (.int .i64) .unit))))))) (.pair (.int .i64) (.pair (.int .i64) .unit))))).1.1, (((a0.1).getD (Int.toNat ((a0.1).getD (Int.toNat a1) (Ty.dflt (.pair (.pair (.int .i64) (.pair .bool (.pair (.int .i64) (.pair .str (.pair .str (.pair (.int .i64) (.pair (.int .i64) .unit))))))) (.pair (.int .i64) (.pair (.int .i64) .unit))))).2.2.1) (Ty.dflt (.pair (.pair (.int .i64) (.pair .bool (.pair (.int .i64) (.pair .str (.pair .str (.pair (.int .i64) (.pair (.int .i64) .unit))))))) (.pair (.int .i64) (.pair (.int .i64) .unit))))).1.2.1, (((a0.1).getD (Int.toNat ((a0.1).getD (Int.toNat a1) (Ty.dflt (.pair (.pair (.int .i64) (.pair .bool (.pair (.int .i64) (.pair .str (.pair .str (.pair (.int .i64) (.pair (.int .i64) .unit))))))) (.pair (.int .i64) (.pair (.int .i64) .unit))))).2.2.1) (Ty.dflt (.pair (.pair (.int .i64) (.pair .bool (.pair (.int .i64) (.pair .str (.pair .str (.pair (.int .i64) (.pair (.int .i64) .unit))))))) (.pair (.int .i64) (.pair (.int .i64) .unit))))).1.2.2.1, (((a0.1).getD (Int.toNat ((a0.1).getD (Int.toNat a1) (Ty.dflt (.pair (.pair (.int .i64) (.pair .bool (.pair (.int .i64) (.pair .str (.pair .str (.pair (.int .i64) (.pair (.int .i64) .unit))))))) (.pair (.int .i64) (.pair (.int .i64) .unit))))).2.2.1) (Ty.dflt (.pair (.pair (.int .i64) (.pair .bool (.pair (.int .i64) (.pair .str (.pair .str (.pair (.int .i64) (.pair (.int .i64) .unit))))))) (.pair (.int .i64) (.pair (.int .i64) .unit))))).1.2.2.2.1, (((a0.1).getD (Int.toNat ((a0.1).getD (Int.toNat a1) (Ty.dflt (.pair (.pair (.int .i64) (.pair .bool (.pair (.int .i64) (.pair .str (.pair .str (.pair (.int .i64) (.pair (.int .i64) .unit))))))) (.pair (.int .i64) (.pair (.int .i64) .unit))))).2.2.1) (Ty.dflt (.pair (.pair (.int .i64) (.pair .bool (.pair (.int .i64) (.pair .str (.pair .str (.pair (.int .i64) (.pair (.int .i64) .unit))))))) (.pair (.int .i64) (.pair (.int .i64) .unit))))).1.2.2.2.2.1, (((a0.1).getD (Int.toNat ((a0.1).getD (Int.toNat a1) (Ty.dflt (.pair (.pair (.int .i64) (.pair .bool (.pair (.int .i64) (.pair .str (.pair .str (.pair (.int .i64) (.pair (.int .i64) .unit))))))) (.pair (.int .i64) (.pair (.int .i64) .unit))))).2.2.1) (Ty.dflt (.pair (.pair (.int .i64) (.pair .bool (.pair (.int .i64) (.pair .str (.pair .str (.pair (.int .i64) (.pair (.int .i64) .unit))))))) (.pair (.int .i64) (.pair (.int .i64) .unit))))).1.2.2.2.2.2.1, (((a0.1).length : Int), ()))))))), ((a0.1).getD (Int.toNat ((a0.1).getD (Int.toNat a1) (Ty.dflt (.pair (.pair (.int .i64) (.pair .bool (.pair (.int .i64) (.pair .str (.pair .str (.pair (.int .i64) (.pair (.int .i64) .unit))))))) (.pair (.int .i64) (.pair (.int .i64) .unit))))).2.2.1) (Ty.dflt (.pair (.pair (.int .i64) (.pair .bool (.pair (.int .i64) (.pair .str (.pair .str (.pair (.int .i64) (.pair (.int .i64) .unit))))))) (.pair (.int .i64) (.pair (.int .i64) .unit))))).2))).set (Int.toNat a1) (((((a0.1).set (Int.toNat ((a0.1).getD (Int.toNat a1) (Ty.dflt (.pair (.pair (.int .i64) (.pair .bool (.pair (.int .i64) (.pair .str (.pair .str (.pair (.int .i64) (.pair (.int .i64) .unit))))))) (.pair (.int .i64) (.pair (.int .i64) .unit))))).2.2.1) ((((a0.1).getD (Int.toNat ((a0.1).getD (Int.toNat a1) (Ty.dflt (.pair (.pair (.int .i64) (.pair .bool (.pair (.int .i64) (.pair .str (.pair .str (.pair (.int .i64) (.pair (.int .i64) .unit))))))) (.pair (.int .i64) (.pair (.int .i64) .unit))))).2.2.1) (Ty.dflt (.pair (.pair (.int .i64) (.pair .bool (.pair (.int .i64) (.pair .str (.pair .str (.pair (.int .i64) (.pair (.int .i64) .unit))))))) (.pair (.int .i64) (.pair (.int .i64) .unit))))).1.1, (((a0.1).getD (Int.toNat ((a0.1).getD (Int.toNat a1) (Ty.dflt (.pair (.pair (.int .i64) (.pair .bool (.pair (.int .i64) (.pair .str (.pair .str (.pair (.int .i64) (.pair (.int .i64) .unit))))))) (.pair (.int .i64) (.pair (.int .i64) .unit))))).2.2.1) (Ty.dflt (.pair (.pair (.int .i64) (.pair .bool (.pair (.int .i64) (.pair .str (.pair .str (.pair (.int .i64) (.pair (.int .i64) .unit))))))) (.pair (.int .i64) (.pair (.int .i64) .unit))))).1.2.1, (((a0.1).getD (Int.toNat ((a0.1).getD (Int.toNat a1) (Ty.dflt (.pair (.pair (.int .i64) (.pair .bool (.pair (.int .i64) (.pair .str (.pair .str (.pair (.int .i64) (.pair (.int .i64) .unit))))))) (.pair (.int .i64) (.pair (.int .i64) .unit))))).2.2.1) (Ty.dflt (.pair (.pair (.int .i64) (.pair .bool (.pair (.int .i64) (.pair .str (.pair .str (.pair (.int .i64) (.pair (.int .i64) .unit))))))) (.pair (.int .i64) (.pair (.int .i64) .unit))))).1.2.2.1, (((a0.1).getD (Int.toNat ((a0.1).getD (Int.toNat a1) (Ty.dflt (.pair (.pair (.int .i64) (.pair .bool (.pair (.int .i64) (.pair .str (.pair .str (.pair (.int .i64) (.pair (.int .i64) .unit))))))) (.pair (.int .i64) (.pair (.int .i64) .unit))))).2.2.1) (Ty.dflt (.pair (.pair (.int .i64) (.pair .bool (.pair (.int .i64) (.pair .str (.pair .str (.pair (.int .i64) (.pair (.int .i64) .unit))))))) (.pair (.int .i64) (.pair (.int .i64) .unit))))).1.2.2.2.1, (((a0.1).getD (Int.toNat ((a0.1).getD (Int.toNat a1) (Ty.dflt (.pair (.pair (.int .i64) (.pair .bool (.pair (.int .i64) (.pair .str (.pair .str (.pair (.int .i64) (.pair (.int .i64) .unit))))))) (.pair (.int .i64) (.pair (.int .i64) .unit))))).2.2.1) (Ty.dflt (.pair (.pair (.int .i64) (.pair .bool (.pair (.int .i64) (.pair .str (.pair .str (.pair (.int .i64) (.pair (.int .i64) .unit))))))) (.pair (.int .i64) (.pair (.int .i64) .unit))))).1.2.2.2.2.1, (((a0.1).getD (Int.toNat ((a0.1).getD (Int.toNat a1) (Ty.dflt (.pair (.pair (.int .i64) (.pair .bool (.pair (.int .i64) (.pair .str (.pair .str (.pair (.int .i64) (.pair (.int .i64) .unit))))))) (.pair (.int .i64) (.pair (.int .i64) .unit))))).2.2.1) (Ty.dflt (.pair (.pair (.int .i64) (.pair .bool (.pair (.int .i64) (.pair .str (.pair .str (.pair (.int .i64) (.pair (.int .i64) .unit))))))) (.pair (.int .i64) (.pair (.int .i64) .unit))))).1.2.2.2.2.2.1, (((a0.1).length : Int), ()))))))), ((a0.1).getD (Int.toNat ((a0.1).getD (Int.toNat a1) (Ty.dflt (.pair (.pair (.int .i64) (.pair .bool (.pair (.int .i64) (.pair .str (.pair .str (.pair (.int .i64) (.pair (.int .i64) .unit))))))) (.pair (.int .i64) (.pair (.int .i64) .unit))))).2.2.1) (Ty.dflt (.pair (.pair (.int .i64) (.pair .bool (.pair (.int .i64) (.pair .str (.pair .str (.pair (.int .i64) (.pair (.int .i64) .unit))))))) (.pair (.int .i64) (.pair (.int .i64) .unit))))).2))).getD (Int.toNat a1) (Ty.dflt (.pair (.pair (.int .i64) (.pair .bool (.pair (.int .i64) (.pair .str (.pair .str (.pair (.int .i64) (.pair (.int .i64) .unit))))))) (.pair (.int .i64) (.pair (.int .i64) .unit))))).1, (((((a0.1).set (Int.toNat ((a0.1).getD (Int.toNat a1) (Ty.dflt (.pair (.pair (.int .i64) (.pair .bool (.pair (.int .i64) (.pair .str (.pair .str (.pair (.int .i64) (.pair (.int .i64) .unit))))))) (.pair (.int .i64) (.pair (.int .i64) .unit))))).2.2.1) ((((a0.1).getD (Int.toNat ((a0.1).getD (Int.toNat a1) (Ty.dflt (.pair (.pair (.int .i64) (.pair .bool (.pair (.int .i64) (.pair .str (.pair .str (.pair (.int .i64) (.pair (.int .i64) .unit))))))) (.pair (.int .i64) (.pair (.int .i64) .unit))))).2.2.1) (Ty.dflt (.pair (.pair (.int .i64) (.pair .bool (.pair (.int .i64) (.pair .str (.pair .str (.pair (.int .i64) (.pair (.int .i64) .unit))))))) (.pair (.int .i64) (.pair (.int .i64) .unit))))).1.1, (((a0.1).getD (Int.toNat ((a0.1).getD (Int.toNat a1) (Ty.dflt (.pair (.pair (.int .i64) (.pair .bool (.pair (.int .i64) (.pair .str (.pair .str (.pair (.int .i64) (.pair (.int .i64) .unit))))))) (.pair (.int .i64) (.pair (.int .i64) .unit))))).2.2.1) (Ty.dflt (.pair (.pair (.int .i64) (.pair .bool (.pair (.int .i64) (.pair .str (.pair .str (.pair (.int .i64) (.pair (.int .i64) .unit))))))) (.pair (.int .i64) (.pair (.int .i64) .unit))))).1.2.1, (((a0.1).getD (Int.toNat ((a0.1).getD (Int.toNat a1) (Ty.dflt (.pair (.pair (.int .i64) (.pair .bool (.pair (.int .i64) (.pair .str (.pair .str (.pair (.int .i64) (.pair (.int .i64) .unit))))))) (.pair (.int .i64) (.pair (.int .i64) .unit))))).2.2.1) (Ty.dflt (.pair (.pair (.int .i64) (.pair .bool (.pair (.int .i64) (.pair .str (.pair .str (.pair (.int .i64) (.pair (.int .i64) .unit))))))) (.pair (.int .i64) (.pair (.int .i64) .unit))))).1.2.2.1, (((a0.1).getD (Int.toNat ((a0.1).getD (Int.toNat a1) (Ty.dflt (.pair (.pair (.int .i64) (.pair .bool (.pair (.int .i64) (.pair .str (.pair .str (.pair (.int .i64) (.pair (.int .i64) .unit))))))) (.pair (.int .i64) (.pair (.int .i64) .unit))))).2.2.1) (Ty.dflt (.pair (.pair (.int .i64) (.pair .bool (.pair (.int .i64) (.pair .str (.pair .str (.pair (.int .i64) (.pair (.int .i64) .unit))))))) (.pair (.int .i64) (.pair (.int .i64) .unit))))).1.2.2.2.1, (((a0.1).getD (Int.toNat ((a0.1).getD (Int.toNat a1) (Ty.dflt (.pair (.pair (.int .i64) (.pair .bool (.pair (.int .i64) (.pair .str (.pair .str (.pair (.int .i64) (.pair (.int .i64) .unit))))))) (.pair (.int .i64) (.pair (.int .i64) .unit))))).2.2.1) (Ty.dflt (.pair (.pair (.int .i64) (.pair .bool (.pair (.int .i64) (.pair .str (.pair .str (.pair (.int .i64) (.pair (.int .i64) .unit))))))) (.pair (.int .i64) (.pair (.int .i64) .unit))))).1.2.2.2.2.1, (((a0.1).getD (Int.toNat ((a0.1).getD (Int.toNat a1) (Ty.dflt (.pair (.pair (.int .i64) (.pair .bool (.pair (.int .i64) (.pair .str (.pair .str (.pair (.int .i64) (.pair (.int .i64) .unit))))))) (.pair (.int .i64) (.pair (.int .i64) .unit))))).2.2.1) (Ty.dflt (.pair (.pair (.int .i64) (.pair .bool (.pair (.int .i64) (.pair .str (.pair .str (.pair (.int .i64) (.pair (.int .i64) .unit))))))) (.pair (.int .i64) (.pair (.int .i64) .unit))))).1.2.2.2.2.2.1, (((a0.1).length : Int), ()))))))), ((a0.1).getD (Int.toNat ((a0.1).getD (Int.toNat a1) (Ty.dflt (.pair (.pair (.int .i64) (.pair .bool (.pair (.int .i64) (.pair .str (.pair .str (.pair (.int .i64) (.pair (.int .i64) .unit))))))) (.pair (.int .i64) (.pair (.int .i64) .unit))))).2.2.1) (Ty.dflt (.pair (.pair (.int .i64) (.pair .bool (.pair (.int .i64) (.pair .str (.pair .str (.pair (.int .i64) (.pair (.int .i64) .unit))))))) (.pair (.int .i64) (.pair (.int .i64) .unit))))).2))).getD (Int.toNat a1) (Ty.dflt (.pair (.pair (.int .i64) (.pair .bool (.pair (.int .i64) (.pair .str (.pair .str (.pair (.int .i64) (.pair (.int .i64) .unit))))))) (.pair (.int .i64) (.pair (.int .i64) .unit))))).2.1, (((a0.1).length : Int), ()))))).length + (([(r5, (a1, ((-1), ())))] : List ((Int × (Bool × (Int × (List UInt8 × (List UInt8 × (Int × (Int × Unit))))))) × (Int × (Int × Unit))))).length ≤ maxRoom)) then
              some (((((((a0.1).set (Int.toNat ((a0.1).getD (Int.toNat a1) (Ty.dflt (.pair (.pair (.int .i64) (.pair .bool (.pair (.int .i64) (.pair .str (.pair .str (.pair (.int .i64) (.pair (.int .i64) .unit))))))) (.pair (.int .i64) (.pair (.int .i64) .unit))))).2.2.1) ((((a0.1).getD (Int.toNat ((a0.1).getD (Int.toNat a1) (Ty.dflt (.pair (.pair (.int .i64) (.pair .bool (.pair (.int .i64) (.pair .str (.pair .str (.pair (.int .i64) (.pair (.int .i64) .unit))))))) (.pair (.int .i64) (.pair (.int .i64) .unit))))).2.2.1) (Ty.dflt (.pair (.pair (.int .i64) (.pair .bool (.pair (.int .i64) (.pair .str (.pair .str (.pair (.int .i64) (.pair (.int .i64) .unit))))))) (.pair (.int .i64) (.pair (.int .i64) .unit))))).1.1, (((a0.1).getD (Int.toNat ((a0.1).getD (Int.toNat a1) (Ty.dflt (.pair (.pair (.int .i64) (.pair .bool (.pair (.int .i64) (.pair .str (.pair .str (.pair (.int .i64) (.pair (.int .i64) .unit))))))) (.pair (.int .i64) (.pair (.int .i64) .unit))))).2.2.1) (Ty.dflt (.pair (.pair (.int .i64) (.pair .bool (.pair (.int .i64) (.pair .str (.pair .str (.pair (.int .i64) (.pair (.int .i64) .unit))))))) (.pair (.int .i64) (.pair (.int .i64) .unit))))).1.2.1, (((a0.1).getD (Int.toNat ((a0.1).getD (Int.toNat a1) (Ty.dflt (.pair (.pair (.int .i64) (.pair .bool (.pair (.int .i64) (.pair .str (.pair .str (.pair (.int .i64) (.pair (.int .i64) .unit))))))) (.pair (.int .i64) (.pair (.int .i64) .unit))))).2.2.1) (Ty.dflt (.pair (.pair (.int .i64) (.pair .bool (.pair (.int .i64) (.pair .str (.pair .str (.pair (.int .i64) (.pair (.int .i64) .unit))))))) (.pair (.int .i64) (.pair (.int .i64) .unit))))).1.2.2.1, (((a0.1).getD (Int.toNat ((a0.1).getD (Int.toNat a1) (Ty.dflt (.pair (.pair (.int .i64) (.pair .bool (.pair (.int .i64) (.pair .str (.pair .str (.pair (.int .i64) (.pair (.int .i64) .unit))))))) (.pair (.int .i64) (.pair (.int .i64) .unit))))).2.2.1) (Ty.dflt (.pair (.pair (.int .i64) (.pair .bool (.pair (.int .i64) (.pair .str (.pair .str (.pair (.int .i64) (.pair (.int .i64) .unit))))))) (.pair (.int .i64) (.pair (.int .i64) .unit))))).1.2.2.2.1, (((a0.1).getD (Int.toNat ((a0.1).getD (Int.toNat a1) (Ty.dflt (.pair (.pair (.int .i64) (.pair .bool (.pair (.int .i64) (.pair .str (.pair .str (.pair (.int .i64) (.pair (.int .i64) .unit))))))) (.pair (.int .i64) (.pair (.int .i64) .unit))))).2.2.1) (Ty.dflt (.pair (.pair (.int .i64) (.pair .bool (.pair (.int .i64) (.pair .str (.pair .str (.pair (.int .i64) (.pair (.int .i64) .unit))))))) (.pair (.int .i64) (.pair (.int .i64) .unit))))).1.2.2.2.2.1, (((a0.1).getD (Int.toNat ((a0.1).getD (Int.toNat a1) (Ty.dflt (.pair (.pair (.int .i64) (.pair .bool (.pair (.int .i64) (.pair .str (.pair .str (.pair (.int .i64) (.pair (.int .i64) .unit))))))) (.pair (.int .i64) (.pair (.int .i64) .unit))))).2.2.1) (Ty.dflt (.pair (.pair (.int .i64) (.pair .bool (.pair (.int .i64) (.pair .str (.pair .str (.pair (.int .i64) (.pair (.int .i64) .unit))))))) (.pair (.int .i64) (.pair (.int .i64) .unit))))).1.2.2.2.2.2.1, (((a0.1).length : Int), ()))))))), ((a0.1).getD (Int.toNat ((a0.1).getD (Int.toNat a1) (Ty.dflt (.pair (.pair (.int .i64) (.pair .bool (.pair (.int .i64) (.pair .str (.pair .str (.pair (.int .i64) (.pair (.int .i64) .unit))))))) (.pair (.int .i64) (.pair (.int .i64) .unit))))).2.2.1) (Ty.dflt (.pair (.pair (.int .i64) (.pair .bool (.pair (.int .i64) (.pair .str (.pair .str (.pair (.int .i64) (.pair (.int .i64) .unit))))))) (.pair (.int .i64) (.pair (.int .i64) .unit))))).2))).set (Int.toNat a1) (((((a0.1).set (Int.toNat ((a0.1).getD (Int.toNat a1) (Ty.dflt (.pair (.pair (.int .i64) (.pair .bool (.pair (.int .i64) (.pair .str (.pair .str (.pair (.int .i64) (.pair (.int .i64) .unit))))))) (.pair (.int .i64) (.pair (.int .i64) .unit))))).2.2.1) ((((a0.1).getD (Int.toNat ((a0.1).getD (Int.toNat a1) (Ty.dflt (.pair (.pair (.int .i64) (.pair .bool (.pair (.int .i64) (.pair .str (.pair .str (.pair (.int .i64) (.pair (.int .i64) .unit))))))) (.pair (.int .i64) (.pair (.int .i64) .unit))))).2.2.1) (Ty.dflt (.pair (.pair (.int .i64) (.pair .bool (.pair (.int .i64) (.pair .str (.pair .str (.pair (.int .i64) (.pair (.int .i64) .unit))))))) (.pair (.int .i64) (.pair (.int .i64) .unit))))).1.1, (((a0.1).getD (Int.toNat ((a0.1).getD (Int.toNat a1) (Ty.dflt (.pair (.pair (.int .i64) (.pair .bool (.pair (.int .i64) (.pair .str (.pair .str (.pair (.int .i64) (.pair (.int .i64) .unit))))))) (.pair (.int .i64) (.pair (.int .i64) .unit))))).2.2.1) (Ty.dflt (.pair (.pair (.int .i64) (.pair .bool (.pair (.int .i64) (.pair .str (.pair .str (.pair (.int .i64) (.pair (.int .i64) .unit))))))) (.pair (.int .i64) (.pair (.int .i64) .unit))))).1.2.1, (((a0.1).getD (Int.toNat ((a0.1).getD (Int.toNat a1) (Ty.dflt (.pair (.pair (.int .i64) (.pair .bool (.pair (.int .i64) (.pair .str (.pair .str (.pair (.int .i64) (.pair (.int .i64) .unit))))))) (.pair (.int .i64) (.pair (.int .i64) .unit))))).2.2.1) (Ty.dflt (.pair (.pair (.int .i64) (.pair .bool (.pair (.int .i64) (.pair .str (.pair .str (.pair (.int .i64) (.pair (.int .i64) .unit))))))) (.pair (.int .i64) (.pair (.int .i64) .unit))))).1.2.2.1, (((a0.1).getD (Int.toNat ((a0.1).getD (Int.toNat a1) (Ty.dflt (.pair (.pair (.int .i64) (.pair .bool (.pair (.int .i64) (.pair .str (.pair .str (.pair (.int .i64) (.pair (.int .i64) .unit))))))) (.pair (.int .i64) (.pair (.int .i64) .unit))))).2.2.1) (Ty.dflt (.pair (.pair (.int .i64) (.pair .bool (.pair (.int .i64) (.pair .str (.pair .str (.pair (.int .i64) (.pair (.int .i64) .unit))))))) (.pair (.int .i64) (.pair (.int .i64) .unit))))).1.2.2.2.1, (((a0.1).getD (Int.toNat ((a0.1).getD (Int.toNat a1) (Ty.dflt (.pair (.pair (.int .i64) (.pair .bool (.pair (.int .i64) (.pair .str (.pair .str (.pair (.int .i64) (.pair (.int .i64) .unit))))))) (.pair (.int .i64) (.pair (.int .i64) .unit))))).2.2.1) (Ty.dflt (.pair (.pair (.int .i64) (.pair .bool (.pair (.int .i64) (.pair .str (.pair .str (.pair (.int .i64) (.pair (.int .i64) .unit))))))) (.pair (.int .i64) (.pair (.int .i64) .unit))))).1.2.2.2.2.1, (((a0.1).getD (Int.toNat ((a0.1).getD (Int.toNat a1) (Ty.dflt (.pair (.pair (.int .i64) (.pair .bool (.pair (.int .i64) (.pair .str (.pair .str (.pair (.int .i64) (.pair (.int .i64) .unit))))))) (.pair (.int .i64) (.pair (.int .i64) .unit))))).2.2.1) (Ty.dflt (.pair (.pair (.int .i64) (.pair .bool (.pair (.int .i64) (.pair .str (.pair .str (.pair (.int .i64) (.pair (.int .i64) .unit))))))) (.pair (.int .i64) (.pair (.int .i64) .unit))))).1.2.2.2.2.2.1, (((a0.1).length : Int), ()))))))), ((a0.1).getD (Int.toNat ((a0.1).getD (Int.toNat a1) (Ty.dflt (.pair (.pair (.int .i64) (.pair .bool (.pair (.int .i64) (.pair .str (.pair .str (.pair (.int .i64) (.pair (.int .i64) .unit))))))) (.pair (.int .i64) (.pair (.int .i64) .unit))))).2.2.1) (Ty.dflt (.pair (.pair (.int .i64) (.pair .bool (.pair (.int .i64) (.pair .str (.pair .str (.pair (.int .i64) (.pair (.int .i64) .unit))))))) (.pair (.int .i64) (.pair (.int .i64) .unit))))).2))).getD (Int.toNat a1) (Ty.dflt (.pair (.pair (.int .i64) (.pair .bool (.pair (.int .i64) (.pair .str (.pair .str (.pair (.int .i64) (.pair (.int .i64) .unit))))))) (.pair (.int .i64) (.pair (.int .i64) .unit))))).1, (((((a0.1).set (Int.toNat ((a0.1).getD (Int.toNat a1) (Ty.dflt (.pair (.pair (.int .i64) (.pair .bool (.pair (.int .i64) (.pair .str (.pair .str (.pair (.int .i64) (.pair (.int .i64) .unit))))))) (.pair (.int .i64) (.pair (.int .i64) .unit))))).2.2.1) ((((a0.1).getD (Int.toNat ((a0.1).getD (Int.toNat a1) (Ty.dflt (.pair (.pair (.int .i64) (.pair .bool (.pair (.int .i64) (.pair .str (.pair .str (.pair (.int .i64) (.pair (.int .i64) .unit))))))) (.pair (.int .i64) (.pair (.int .i64) .unit))))).2.2.1) (Ty.dflt (.pair (.pair (.int .i64) (.pair .bool (.pair (.int .i64) (.pair .str (.pair .str (.pair (.int .i64) (.pair (.int .i64) .unit))))))) (.pair (.int .i64) (.pair (.int .i64) .unit))))).1.1, (((a0.1).getD (Int.toNat ((a0.1).getD (Int.toNat a1) (Ty.dflt (.pair (.pair (.int .i64) (.pair .bool (.pair (.int .i64) (.pair .str (.pair .str (.pair (.int .i64) (.pair (.int .i64) .unit))))))) (.pair (.int .i64) (.pair (.int .i64) .unit))))).2.2.1) (Ty.dflt (.pair (.pair (.int .i64) (.pair .bool (.pair (.int .i64) (.pair .str (.pair .str (.pair (.int .i64) (.pair (.int .i64) .unit))))))) (.pair (.int .i64) (.pair (.int .i64) .unit))))).1.2.1, (((a0.1).getD (Int.toNat ((a0.1).getD (Int.toNat a1) (Ty.dflt (.pair (.pair (.int .i64) (.pair .bool (.pair (.int .i64) (.pair .str (.pair .str (.pair (.int .i64) (.pair (.int .i64) .unit))))))) (.pair (.int .i64) (.pair (.int .i64) .unit))))).2.2.1) (Ty.dflt (.pair (.pair (.int .i64) (.pair .bool (.pair (.int .i64) (.pair .str (.pair .str (.pair (.int .i64) (.pair (.int .i64) .unit))))))) (.pair (.int .i64) (.pair (.int .i64) .unit))))).1.2.2.1, (((a0.1).getD (Int.toNat ((a0.1).getD (Int.toNat a1) (Ty.dflt (.pair (.pair (.int .i64) (.pair .bool (.pair (.int .i64) (.pair .str (.pair .str (.pair (.int .i64) (.pair (.int .i64) .unit))))))) (.pair (.int .i64) (.pair (.int .i64) .unit))))).2.2.1) (Ty.dflt (.pair (.pair (.int .i64) (.pair .bool (.pair (.int .i64) (.pair .str (.pair .str (.pair (.int .i64) (.pair (.int .i64) .unit))))))) (.pair (.int .i64) (.pair (.int .i64) .unit))))).1.2.2.2.1, (((a0.1).getD (Int.toNat ((a0.1).getD (Int.toNat a1) (Ty.dflt (.pair (.pair (.int .i64) (.pair .bool (.pair (.int .i64) (.pair .str (.pair .str (.pair (.int .i64) (.pair (.int .i64) .unit))))))) (.pair (.int .i64) (.pair (.int .i64) .unit))))).2.2.1) (Ty.dflt (.pair (.pair (.int .i64) (.pair .bool (.pair (.int .i64) (.pair .str (.pair .str (.pair (.int .i64) (.pair (.int .i64) .unit))))))) (.pair (.int .i64) (.pair (.int .i64) .unit))))).1.2.2.2.2.1, (((a0.1).getD (Int.toNat ((a0.1).getD (Int.toNat a1) (Ty.dflt (.pair (.pair (.int .i64) (.pair .bool (.pair (.int .i64) (.pair .str (.pair .str (.pair (.int .i64) (.pair (.int .i64) .unit))))))) (.pair (.int .i64) (.pair (.int .i64) .unit))))).2.2.1) (Ty.dflt (.pair (.pair (.int .i64) (.pair .bool (.pair (.int .i64) (.pair .str (.pair .str (.pair (.int .i64) (.pair (.int .i64) .unit))))))) (.pair (.int .i64) (.pair (.int .i64) .unit))))).1.2.2.2.2.2.1, (((a0.1).length : Int), ()))))))), ((a0.1).getD (Int.toNat ((a0.1).getD (Int.toNat a1) (Ty.dflt (.pair (.pair (.int .i64) (.pair .bool (.pair (.int .i64) (.pair .str (.pair .str (.pair (.int .i64) (.pair (.int .i64) .unit))))))) (.pair (.int .i64) (.pair (.int .i64) .unit))))).2.2.1) (Ty.dflt (.pair (.pair (.int .i64) (.pair .bool (.pair (.int .i64) (.pair .str (.pair .str (.pair (.int .i64) (.pair (.int .i64) .unit))))))) (.pair (.int .i64) (.pair (.int .i64) .unit))))).2))).getD (Int.toNat a1) (Ty.dflt (.pair (.pair (.int .i64) (.pair .bool (.pair (.int .i64) (.pair .str (.pair .str (.pair (.int .i64) (.pair (.int .i64) .unit))))))) (.pair (.int .i64) (.pair (.int .i64) .unit))))).2.1, (((a0.1).length : Int), ())))) ++ ([(r5, (a1, ((-1), ())))] : List ((Int × (Bool × (Int × (List UInt8 × (List UInt8 × (Int × (Int × Unit))))))) × (Int × (Int × Unit))))), ()), ((a0.1).length : Int))
              else none)
              | none => none)
              else none)))
          | none => none)))
      else none)))

noncomputable def lay60 : Lay := layOf layL [(52, .inl)]
theorem lay60_ok : LayOK Tryd.prog lay60 := layOf_ok layAll (by
  intro p hp
  simp only [List.mem_cons, List.not_mem_nil, or_false] at hp
  rcases hp with rfl
  · exact trivial) layEq

noncomputable def c60 : Code := Tryd.f60.body.getD .skip

noncomputable def G60 (n : Nat) : Ctx (Res [.pair (.slice (.pair (.pair (.int .i64) (.pair .bool (.pair (.int .i64) (.pair .str (.pair .str (.pair (.int .i64) (.pair (.int .i64) .unit))))))) (.pair (.int .i64) (.pair (.int .i64) .unit)))) .unit, .int .i64]) := ent 75 [.int .i64] [.bool] (fun x => F75 n x) (ent 76 [.pair (.int .i64) (.pair .bool (.pair (.int .i64) (.pair .str (.pair .str (.pair (.int .i64) (.pair (.int .i64) .unit)))))), .int .i64] [.pair (.int .i64) (.pair .bool (.pair (.int .i64) (.pair .str (.pair .str (.pair (.int .i64) (.pair (.int .i64) .unit))))))] (fun x => F76 n x.1 x.2) (noFns))

theorem GO60 (n : Nat) : CtxOK Tryd.prog lay60 (G60 n) := ent_ok (T75 n) (fun _ _ h => h) (ent_ok (T76 n) (fun _ _ h => h) (noFns_ok))

noncomputable def tab60 : Tab := tabOf [(52, (Tryd.f52.body.getD .skip, Tryd.f52.ntmps, [.tmp 4]))]
theorem tab60_ok : TabOK Tryd.prog tab60 := tabOf_ok (by
  refine .cons (by kernel_rfl : Tryd.prog.funcs[52]? = some Tryd.f52) (by kernel_rfl) rfl (by kernel_rfl) (by kernel_rfl) ?_
  exact .nil)

noncomputable def P60 (n : Nat) : Pl (Res [.pair (.slice (.pair (.pair (.int .i64) (.pair .bool (.pair (.int .i64) (.pair .str (.pair .str (.pair (.int .i64) (.pair (.int .i64) .unit))))))) (.pair (.int .i64) (.pair (.int .i64) .unit)))) .unit, .int .i64]) :=
  .leaf

theorem K60 (n : Nat) : PlOK (G60 n) (mkInl tab60 (G60 n) lay60 2) lay60 99 (P60 n) c60 (fnK lay60 [.tmp 6] [.box (.pair (.vec 92 (.pair (.pair (.int .i64) (.pair .bool (.pair (.int .i64) (.pair .str (.pair .str (.pair (.int .i64) (.pair (.int .i64) .unit))))))) (.pair (.int .i64) (.pair (.int .i64) .unit)))) .unit), .val (.int .i64), .val (.pair (.int .i64) (.pair .bool (.pair (.int .i64) (.pair .str (.pair .str (.pair (.int .i64) (.pair (.int .i64) .unit)))))))] [.val (.int .i64)] [.pair (.slice (.pair (.pair (.int .i64) (.pair .bool (.pair (.int .i64) (.pair .str (.pair .str (.pair (.int .i64) (.pair (.int .i64) .unit))))))) (.pair (.int .i64) (.pair (.int .i64) .unit)))) .unit, .int .i64]) :=
  trivial

theorem E60 (n : Nat) (a0 : (List ((Int × (Bool × (Int × (List UInt8 × (List UInt8 × (Int × (Int × Unit))))))) × (Int × (Int × Unit))) × Unit)) (a1 : Int) (a2 : (Int × (Bool × (Int × (List UInt8 × (List UInt8 × (Int × (Int × Unit)))))))) : F60 n a0 a1 a2 = fnE [.box (.pair (.vec 92 (.pair (.pair (.int .i64) (.pair .bool (.pair (.int .i64) (.pair .str (.pair .str (.pair (.int .i64) (.pair (.int .i64) .unit))))))) (.pair (.int .i64) (.pair (.int .i64) .unit)))) .unit), .val (.int .i64), .val (.pair (.int .i64) (.pair .bool (.pair (.int .i64) (.pair .str (.pair .str (.pair (.int .i64) (.pair (.int .i64) .unit)))))))] (argDs [.pair (.slice (.pair (.pair (.int .i64) (.pair .bool (.pair (.int .i64) (.pair .str (.pair .str (.pair (.int .i64) (.pair (.int .i64) .unit))))))) (.pair (.int .i64) (.pair (.int .i64) .unit)))) .unit, .int .i64, .pair (.int .i64) (.pair .bool (.pair (.int .i64) (.pair .str (.pair .str (.pair (.int .i64) (.pair (.int .i64) .unit))))))] (a0, a1, a2)) (fun st => ev (G60 n) (mkInl tab60 (G60 n) lay60 2) lay60 99 c60 (P60 n) st (fnK lay60 [.tmp 6] [.box (.pair (.vec 92 (.pair (.pair (.int .i64) (.pair .bool (.pair (.int .i64) (.pair .str (.pair .str (.pair (.int .i64) (.pair (.int .i64) .unit))))))) (.pair (.int .i64) (.pair (.int .i64) .unit)))) .unit), .val (.int .i64), .val (.pair (.int .i64) (.pair .bool (.pair (.int .i64) (.pair .str (.pair .str (.pair (.int .i64) (.pair (.int .i64) .unit)))))))] [.val (.int .i64)] [.pair (.slice (.pair (.pair (.int .i64) (.pair .bool (.pair (.int .i64) (.pair .str (.pair .str (.pair (.int .i64) (.pair (.int .i64) .unit))))))) (.pair (.int .i64) (.pair (.int .i64) .unit)))) .unit, .int .i64])) := by kernel_rfl

theorem T60 (n : Nat) : ToldIo Tryd.prog 60 [.box (.pair (.vec 92 (.pair (.pair (.int .i64) (.pair .bool (.pair (.int .i64) (.pair .str (.pair .str (.pair (.int .i64) (.pair (.int .i64) .unit))))))) (.pair (.int .i64) (.pair (.int .i64) .unit)))) .unit), .val (.int .i64), .val (.pair (.int .i64) (.pair .bool (.pair (.int .i64) (.pair .str (.pair .str (.pair (.int .i64) (.pair (.int .i64) .unit)))))))] [.val (.int .i64)] [.pair (.slice (.pair (.pair (.int .i64) (.pair .bool (.pair (.int .i64) (.pair .str (.pair .str (.pair (.int .i64) (.pair (.int .i64) .unit))))))) (.pair (.int .i64) (.pair (.int .i64) .unit)))) .unit, .int .i64, .pair (.int .i64) (.pair .bool (.pair (.int .i64) (.pair .str (.pair .str (.pair (.int .i64) (.pair (.int .i64) .unit))))))] [.pair (.slice (.pair (.pair (.int .i64) (.pair .bool (.pair (.int .i64) (.pair .str (.pair .str (.pair (.int .i64) (.pair (.int .i64) .unit))))))) (.pair (.int .i64) (.pair (.int .i64) .unit)))) .unit, .int .i64] (fun x => F60 n x.1 x.2.1 x.2.2) := by
  rintro ⟨a0, a1, a2⟩ r h
  exact fn_sound lay60_ok mixed (rvs := [.tmp 6]) (by kernel_rfl : Tryd.prog.funcs[60]? = some Tryd.f60) (by kernel_rfl : Tryd.f60.body = some c60) (by kernel_rfl) (by kernel_rfl) (by kernel_rfl) (GO60 n) (mkInl_ok tab60_ok (GO60 n) lay60_ok mixed 2) (K60 n) ((E60 n a0 a1 a2).symm.trans h)

/-! ### (*orthoepy/orthoepyref18.Arena).Add -/

def F61j3 (n : Nat) (t1 : Int) (t8 : Int) (b7_0 : Int) (b7_1 : Bool) (b7_2 : Int) (b7_3 : List UInt8) (b7_4 : List UInt8) (b7_5 : Int) (b7_6 : Int) (b100000_0 : List (Int × (Bool × (Int × (List UInt8 × (List UInt8 × (Int × (Int × Unit)))))))) (b100000_1 : List Int) (b100000_2 : List Int) : Option ((List (Int × (Bool × (Int × (List UInt8 × (List UInt8 × (Int × (Int × Unit))))))) × (List Int × (List Int × Unit))) × Int) :=
  (bif (decide (((b100000_0).length + (([(b7_0, (b7_1, (b7_2, (b7_3, (b7_4, (b7_5, (b7_6, ())))))))] : List (Int × (Bool × (Int × (List UInt8 × (List UInt8 × (Int × (Int × Unit))))))))).length) * 72 ≤ maxRoom) && decide ((b100000_0).length + (([(b7_0, (b7_1, (b7_2, (b7_3, (b7_4, (b7_5, (b7_6, ())))))))] : List (Int × (Bool × (Int × (List UInt8 × (List UInt8 × (Int × (Int × Unit))))))))).length ≤ maxRoom)) then
  (bif (decide (((b100000_1).length + (([t1] : List Int)).length) * 8 ≤ maxRoom) && decide ((b100000_1).length + (([t1] : List Int)).length ≤ maxRoom)) then
  (bif (decide (((b100000_2).length + (([(-1)] : List Int)).length) * 8 ≤ maxRoom) && decide ((b100000_2).length + (([(-1)] : List Int)).length ≤ maxRoom)) then
  some (((b100000_0 ++ ([(b7_0, (b7_1, (b7_2, (b7_3, (b7_4, (b7_5, (b7_6, ())))))))] : List (Int × (Bool × (Int × (List UInt8 × (List UInt8 × (Int × (Int × Unit))))))))), ((b100000_1 ++ ([t1] : List Int)), ((b100000_2 ++ ([(-1)] : List Int)), ()))), t8)
  else none)
  else none)
  else none)

def F61j4 (n : Nat) (t1 : Int) (t8 : Int) (b7_0 : Int) (b7_1 : Bool) (b7_2 : Int) (b7_3 : List UInt8) (b7_4 : List UInt8) (b7_5 : Int) (b7_6 : Int) (b100000_0 : List (Int × (Bool × (Int × (List UInt8 × (List UInt8 × (Int × (Int × Unit)))))))) (b100000_1 : List Int) (b100000_2 : List Int) : Option ((List (Int × (Bool × (Int × (List UInt8 × (List UInt8 × (Int × (Int × Unit))))))) × (List Int × (List Int × Unit))) × Int) :=
  (bif inB t1 (b100000_0).length then
  (bif (decide (((b100000_0).getD (Int.toNat t1) (Ty.dflt (.pair (.int .i64) (.pair .bool (.pair (.int .i64) (.pair .str (.pair .str (.pair (.int .i64) (.pair (.int .i64) .unit))))))))).2.2.2.2.2.1 < 0)) then
    (bif inB t1 (b100000_0).length then
    (bif inB t1 (b100000_2).length then
    F61j3 n t1 t8 b7_0 b7_1 b7_2 b7_3 b7_4 b7_5 b7_6 ((b100000_0).set (Int.toNat t1) (((b100000_0).getD (Int.toNat t1) (Ty.dflt (.pair (.int .i64) (.pair .bool (.pair (.int .i64) (.pair .str (.pair .str (.pair (.int .i64) (.pair (.int .i64) .unit))))))))).1, (((b100000_0).getD (Int.toNat t1) (Ty.dflt (.pair (.int .i64) (.pair .bool (.pair (.int .i64) (.pair .str (.pair .str (.pair (.int .i64) (.pair (.int .i64) .unit))))))))).2.1, (((b100000_0).getD (Int.toNat t1) (Ty.dflt (.pair (.int .i64) (.pair .bool (.pair (.int .i64) (.pair .str (.pair .str (.pair (.int .i64) (.pair (.int .i64) .unit))))))))).2.2.1, (((b100000_0).getD (Int.toNat t1) (Ty.dflt (.pair (.int .i64) (.pair .bool (.pair (.int .i64) (.pair .str (.pair .str (.pair (.int .i64) (.pair (.int .i64) .unit))))))))).2.2.2.1, (((b100000_0).getD (Int.toNat t1) (Ty.dflt (.pair (.int .i64) (.pair .bool (.pair (.int .i64) (.pair .str (.pair .str (.pair (.int .i64) (.pair (.int .i64) .unit))))))))).2.2.2.2.1, (t8, ((b100000_0).getD (Int.toNat t1) (Ty.dflt (.pair (.int .i64) (.pair .bool (.pair (.int .i64) (.pair .str (.pair .str (.pair (.int .i64) (.pair (.int .i64) .unit))))))))).2.2.2.2.2.2))))))) b100000_1 ((b100000_2).set (Int.toNat t1) t8)
    else none)
    else none)
  else
    (bif inB t1 (b100000_2).length then
    (bif inB ((b100000_2).getD (Int.toNat t1) (Ty.dflt (.int .i64))) (b100000_0).length then
    (bif inB t1 (b100000_2).length then
    F61j3 n t1 t8 b7_0 b7_1 b7_2 b7_3 b7_4 b7_5 b7_6 ((b100000_0).set (Int.toNat ((b100000_2).getD (Int.toNat t1) (Ty.dflt (.int .i64)))) (((b100000_0).getD (Int.toNat ((b100000_2).getD (Int.toNat t1) (Ty.dflt (.int .i64)))) (Ty.dflt (.pair (.int .i64) (.pair .bool (.pair (.int .i64) (.pair .str (.pair .str (.pair (.int .i64) (.pair (.int .i64) .unit))))))))).1, (((b100000_0).getD (Int.toNat ((b100000_2).getD (Int.toNat t1) (Ty.dflt (.int .i64)))) (Ty.dflt (.pair (.int .i64) (.pair .bool (.pair (.int .i64) (.pair .str (.pair .str (.pair (.int .i64) (.pair (.int .i64) .unit))))))))).2.1, (((b100000_0).getD (Int.toNat ((b100000_2).getD (Int.toNat t1) (Ty.dflt (.int .i64)))) (Ty.dflt (.pair (.int .i64) (.pair .bool (.pair (.int .i64) (.pair .str (.pair .str (.pair (.int .i64) (.pair (.int .i64) .unit))))))))).2.2.1, (((b100000_0).getD (Int.toNat ((b100000_2).getD (Int.toNat t1) (Ty.dflt (.int .i64)))) (Ty.dflt (.pair (.int .i64) (.pair .bool (.pair (.int .i64) (.pair .str (.pair .str (.pair (.int .i64) (.pair (.int .i64) .unit))))))))).2.2.2.1, (((b100000_0).getD (Int.toNat ((b100000_2).getD (Int.toNat t1) (Ty.dflt (.int .i64)))) (Ty.dflt (.pair (.int .i64) (.pair .bool (.pair (.int .i64) (.pair .str (.pair .str (.pair (.int .i64) (.pair (.int .i64) .unit))))))))).2.2.2.2.1, (((b100000_0).getD (Int.toNat ((b100000_2).getD (Int.toNat t1) (Ty.dflt (.int .i64)))) (Ty.dflt (.pair (.int .i64) (.pair .bool (.pair (.int .i64) (.pair .str (.pair .str (.pair (.int .i64) (.pair (.int .i64) .unit))))))))).2.2.2.2.2.1, (t8, ())))))))) b100000_1 ((b100000_2).set (Int.toNat t1) t8)
    else none)
    else none)
    else none))
  else none)

def F61j2 (n : Nat) (t1 : Int) (b5_0 : Int) (b5_1 : Bool) (b5_2 : Int) (b5_3 : List UInt8) (b5_4 : List UInt8) (b5_5 : Int) (b5_6 : Int) (b7_0 : Int) (b7_1 : Bool) (b7_2 : Int) (b7_3 : List UInt8) (b7_4 : List UInt8) (b7_5 : Int) (b7_6 : Int) (b100000_0 : List (Int × (Bool × (Int × (List UInt8 × (List UInt8 × (Int × (Int × Unit)))))))) (b100000_1 : List Int) (b100000_2 : List Int) : Option ((List (Int × (Bool × (Int × (List UInt8 × (List UInt8 × (Int × (Int × Unit))))))) × (List Int × (List Int × Unit))) × Int) :=
  (bif (decide (t1 ≥ 0)) then
    (bif inB t1 (b100000_0).length then
    (bif (((b100000_0).getD (Int.toNat t1) (Ty.dflt (.pair (.int .i64) (.pair .bool (.pair (.int .i64) (.pair .str (.pair .str (.pair (.int .i64) (.pair (.int .i64) .unit))))))))).1 == 6) then
      F61j4 n t1 ((b100000_0).length : Int) b7_0 b7_1 b7_2 b7_3 b5_4 b7_5 b7_6 b100000_0 b100000_1 b100000_2
    else
      F61j4 n t1 ((b100000_0).length : Int) b7_0 b7_1 b7_2 b7_3 b7_4 b7_5 b7_6 b100000_0 b100000_1 b100000_2)
    else none)
  else
    F61j3 n t1 ((b100000_0).length : Int) b7_0 b7_1 b7_2 b7_3 b7_4 b7_5 b7_6 b100000_0 b100000_1 b100000_2)

def F61j1 (n : Nat) (t1 : Int) (b5_0 : Int) (b5_1 : Bool) (b5_2 : Int) (b5_3 : List UInt8) (b5_4 : List UInt8) (b5_5 : Int) (b5_6 : Int) (b100000_0 : List (Int × (Bool × (Int × (List UInt8 × (List UInt8 × (Int × (Int × Unit)))))))) (b100000_1 : List Int) (b100000_2 : List Int) : Option ((List (Int × (Bool × (Int × (List UInt8 × (List UInt8 × (Int × (Int × Unit))))))) × (List Int × (List Int × Unit))) × Int) :=
  (bif (b5_0 == 2) then
    F61j2 n t1 b5_0 b5_1 b5_2 b5_3 b5_4 b5_5 b5_6 b5_0 b5_1 0 ([] : List UInt8) ([] : List UInt8) (-1) (-1) b100000_0 b100000_1 b100000_2
  else
    (bif (b5_0 == 3) then
      F61j2 n t1 b5_0 b5_1 b5_2 b5_3 b5_4 b5_5 b5_6 b5_0 false b5_2 ([] : List UInt8) ([] : List UInt8) (-1) (-1) b100000_0 b100000_1 b100000_2
    else
      (bif (b5_0 == 4) then
        F61j2 n t1 b5_0 b5_1 b5_2 b5_3 b5_4 b5_5 b5_6 b5_0 false 0 b5_3 ([] : List UInt8) (-1) (-1) b100000_0 b100000_1 b100000_2
      else
        F61j2 n t1 b5_0 b5_1 b5_2 b5_3 b5_4 b5_5 b5_6 b5_0 false 0 ([] : List UInt8) ([] : List UInt8) (-1) (-1) b100000_0 b100000_1 b100000_2)))

def F61j0 (n : Nat) (t1 : Int) (b5_0 : Int) (b5_1 : Bool) (b5_2 : Int) (b5_3 : List UInt8) (b5_4 : List UInt8) (b5_5 : Int) (b5_6 : Int) (b100000_0 : List (Int × (Bool × (Int × (List UInt8 × (List UInt8 × (Int × (Int × Unit)))))))) (b100000_1 : List Int) (b100000_2 : List Int) : Option ((List (Int × (Bool × (Int × (List UInt8 × (List UInt8 × (Int × (Int × Unit))))))) × (List Int × (List Int × Unit))) × Int) :=
  (bif (decide (t1 ≥ 0)) then
    (bif inB t1 (b100000_0).length then
    (bif (((b100000_0).getD (Int.toNat t1) (Ty.dflt (.pair (.int .i64) (.pair .bool (.pair (.int .i64) (.pair .str (.pair .str (.pair (.int .i64) (.pair (.int .i64) .unit))))))))).1 != 5) then
      (bif inB t1 (b100000_0).length then
      (bif (((b100000_0).getD (Int.toNat t1) (Ty.dflt (.pair (.int .i64) (.pair .bool (.pair (.int .i64) (.pair .str (.pair .str (.pair (.int .i64) (.pair (.int .i64) .unit))))))))).1 != 6) then
        some ((b100000_0, (b100000_1, (b100000_2, ()))), (-1))
      else
        F61j1 n t1 b5_0 b5_1 b5_2 b5_3 b5_4 b5_5 b5_6 b100000_0 b100000_1 b100000_2)
      else none)
    else
      F61j1 n t1 b5_0 b5_1 b5_2 b5_3 b5_4 b5_5 b5_6 b100000_0 b100000_1 b100000_2)
    else none)
  else
    F61j1 n t1 b5_0 b5_1 b5_2 b5_3 b5_4 b5_5 b5_6 b100000_0 b100000_1 b100000_2)

def F61 (n : Nat) (a0 : (List (Int × (Bool × (Int × (List UInt8 × (List UInt8 × (Int × (Int × Unit))))))) × (List Int × (List Int × Unit)))) (a1 : Int) (a2 : (Int × (Bool × (Int × (List UInt8 × (List UInt8 × (Int × (Int × Unit)))))))) : Option ((List (Int × (Bool × (Int × (List UInt8 × (List UInt8 × (Int × (Int × Unit))))))) × (List Int × (List Int × Unit))) × Int) :=
  (bif (decide (a2.1 < 1)) then
    some (a0, (-1))
  else
    (bif (decide (a2.1 > 6)) then
      some (a0, (-1))
    else
      (bif (a1 == (-1)) then
        (bif (decide (((a0.1).length : Int) > 0)) then
          some (a0, (-1))
        else
          (bif (decide (a1 < (-1))) then
            some (a0, (-1))
          else
            (bif (decide (a1 ≥ ((a0.1).length : Int))) then
              some (a0, (-1))
            else
              F61j0 n a1 a2.1 a2.2.1 a2.2.2.1 a2.2.2.2.1 a2.2.2.2.2.1 a2.2.2.2.2.2.1 a2.2.2.2.2.2.2.1 a0.1 a0.2.1 a0.2.2.1)))
      else
        (bif (decide (a1 < (-1))) then
          some (a0, (-1))
        else
          (bif (decide (a1 ≥ ((a0.1).length : Int))) then
            some (a0, (-1))
          else
            F61j0 n a1 a2.1 a2.2.1 a2.2.2.1 a2.2.2.2.1 a2.2.2.2.2.1 a2.2.2.2.2.2.1 a2.2.2.2.2.2.2.1 a0.1 a0.2.1 a0.2.2.1)))))

noncomputable def c61 : Code := Tryd.f61.body.getD .skip

noncomputable def G61 (n : Nat) : Ctx (Res [.pair (.slice (.pair (.int .i64) (.pair .bool (.pair (.int .i64) (.pair .str (.pair .str (.pair (.int .i64) (.pair (.int .i64) .unit)))))))) (.pair (.slice (.int .i64)) (.pair (.slice (.int .i64)) .unit)), .int .i64]) := noFns

theorem GO61 (n : Nat) : CtxOK Tryd.prog lay0 (G61 n) := noFns_ok

noncomputable def P61 (n : Nat) : Pl (Res [.pair (.slice (.pair (.int .i64) (.pair .bool (.pair (.int .i64) (.pair .str (.pair .str (.pair (.int .i64) (.pair (.int .i64) .unit)))))))) (.pair (.slice (.int .i64)) (.pair (.slice (.int .i64)) .unit)), .int .i64]) :=
  (.two .leaf (.join [.ptr (.tmp 0) 100000 0, .val (.tmp 1) (.int .i64), .ptr (.tmp 5) 5 0, .val (.cell 5 0) (.int .i64), .val (.cell 5 1) .bool, .val (.cell 5 2) (.int .i64), .val (.cell 5 3) .str, .val (.cell 5 4) .str, .val (.cell 5 5) (.int .i64), .val (.cell 5 6) (.int .i64), .vec (.cell 100000 0) 20000000 81 (.pair (.int .i64) (.pair .bool (.pair (.int .i64) (.pair .str (.pair .str (.pair (.int .i64) (.pair (.int .i64) .unit))))))), .vec (.cell 100000 1) 20000001 3 (.int .i64), .vec (.cell 100000 2) 20000002 3 (.int .i64), .ptr (.sv 0) 100000 0, .box 5 7, .box 100000 3] (fun x => F61j0 n x.2.1 x.2.2.2.1 x.2.2.2.2.1 x.2.2.2.2.2.1 x.2.2.2.2.2.2.1 x.2.2.2.2.2.2.2.1 x.2.2.2.2.2.2.2.2.1 x.2.2.2.2.2.2.2.2.2.1 x.2.2.2.2.2.2.2.2.2.2.1 x.2.2.2.2.2.2.2.2.2.2.2.1 x.2.2.2.2.2.2.2.2.2.2.2.2.1) .leaf (.join [.ptr (.tmp 0) 100000 0, .val (.tmp 1) (.int .i64), .ptr (.tmp 5) 5 0, .val (.cell 5 0) (.int .i64), .val (.cell 5 1) .bool, .val (.cell 5 2) (.int .i64), .val (.cell 5 3) .str, .val (.cell 5 4) .str, .val (.cell 5 5) (.int .i64), .val (.cell 5 6) (.int .i64), .vec (.cell 100000 0) 20000000 81 (.pair (.int .i64) (.pair .bool (.pair (.int .i64) (.pair .str (.pair .str (.pair (.int .i64) (.pair (.int .i64) .unit))))))), .vec (.cell 100000 1) 20000001 3 (.int .i64), .vec (.cell 100000 2) 20000002 3 (.int .i64), .ptr (.sv 0) 100000 0, .box 5 7, .box 100000 3] (fun x => F61j1 n x.2.1 x.2.2.2.1 x.2.2.2.2.1 x.2.2.2.2.2.1 x.2.2.2.2.2.2.1 x.2.2.2.2.2.2.2.1 x.2.2.2.2.2.2.2.2.1 x.2.2.2.2.2.2.2.2.2.1 x.2.2.2.2.2.2.2.2.2.2.1 x.2.2.2.2.2.2.2.2.2.2.2.1 x.2.2.2.2.2.2.2.2.2.2.2.2.1) .leaf (.two .leaf (.join [.ptr (.tmp 0) 100000 0, .val (.tmp 1) (.int .i64), .ptr (.tmp 5) 5 0, .ptr (.tmp 7) 7 0, .val (.cell 5 0) (.int .i64), .val (.cell 5 1) .bool, .val (.cell 5 2) (.int .i64), .val (.cell 5 3) .str, .val (.cell 5 4) .str, .val (.cell 5 5) (.int .i64), .val (.cell 5 6) (.int .i64), .val (.cell 7 0) (.int .i64), .val (.cell 7 1) .bool, .val (.cell 7 2) (.int .i64), .val (.cell 7 3) .str, .val (.cell 7 4) .str, .val (.cell 7 5) (.int .i64), .val (.cell 7 6) (.int .i64), .vec (.cell 100000 0) 20000000 81 (.pair (.int .i64) (.pair .bool (.pair (.int .i64) (.pair .str (.pair .str (.pair (.int .i64) (.pair (.int .i64) .unit))))))), .vec (.cell 100000 1) 20000001 3 (.int .i64), .vec (.cell 100000 2) 20000002 3 (.int .i64), .ptr (.sv 0) 100000 0, .box 5 7, .box 7 7, .box 100000 3] (fun x => F61j2 n x.2.1 x.2.2.2.2.1 x.2.2.2.2.2.1 x.2.2.2.2.2.2.1 x.2.2.2.2.2.2.2.1 x.2.2.2.2.2.2.2.2.1 x.2.2.2.2.2.2.2.2.2.1 x.2.2.2.2.2.2.2.2.2.2.1 x.2.2.2.2.2.2.2.2.2.2.2.1 x.2.2.2.2.2.2.2.2.2.2.2.2.1 x.2.2.2.2.2.2.2.2.2.2.2.2.2.1 x.2.2.2.2.2.2.2.2.2.2.2.2.2.2.1 x.2.2.2.2.2.2.2.2.2.2.2.2.2.2.2.1 x.2.2.2.2.2.2.2.2.2.2.2.2.2.2.2.2.1 x.2.2.2.2.2.2.2.2.2.2.2.2.2.2.2.2.2.1 x.2.2.2.2.2.2.2.2.2.2.2.2.2.2.2.2.2.2.1 x.2.2.2.2.2.2.2.2.2.2.2.2.2.2.2.2.2.2.2.1 x.2.2.2.2.2.2.2.2.2.2.2.2.2.2.2.2.2.2.2.2.1) .leaf (.two .leaf (.join [.ptr (.tmp 0) 100000 0, .val (.tmp 1) (.int .i64), .ptr (.tmp 7) 7 0, .val (.tmp 8) (.int .i64), .val (.cell 7 0) (.int .i64), .val (.cell 7 1) .bool, .val (.cell 7 2) (.int .i64), .val (.cell 7 3) .str, .val (.cell 7 4) .str, .val (.cell 7 5) (.int .i64), .val (.cell 7 6) (.int .i64), .vec (.cell 100000 0) 20000000 81 (.pair (.int .i64) (.pair .bool (.pair (.int .i64) (.pair .str (.pair .str (.pair (.int .i64) (.pair (.int .i64) .unit))))))), .vec (.cell 100000 1) 20000001 3 (.int .i64), .vec (.cell 100000 2) 20000002 3 (.int .i64), .ptr (.sv 0) 100000 0, .box 7 7, .box 100000 3] (fun x => F61j3 n x.2.1 x.2.2.2.1 x.2.2.2.2.1 x.2.2.2.2.2.1 x.2.2.2.2.2.2.1 x.2.2.2.2.2.2.2.1 x.2.2.2.2.2.2.2.2.1 x.2.2.2.2.2.2.2.2.2.1 x.2.2.2.2.2.2.2.2.2.2.1 x.2.2.2.2.2.2.2.2.2.2.2.1 x.2.2.2.2.2.2.2.2.2.2.2.2.1 x.2.2.2.2.2.2.2.2.2.2.2.2.2.1) (.two .leaf (.two (.join [.ptr (.tmp 0) 100000 0, .val (.tmp 1) (.int .i64), .ptr (.tmp 7) 7 0, .val (.tmp 8) (.int .i64), .val (.cell 7 0) (.int .i64), .val (.cell 7 1) .bool, .val (.cell 7 2) (.int .i64), .val (.cell 7 3) .str, .val (.cell 7 4) .str, .val (.cell 7 5) (.int .i64), .val (.cell 7 6) (.int .i64), .vec (.cell 100000 0) 20000000 81 (.pair (.int .i64) (.pair .bool (.pair (.int .i64) (.pair .str (.pair .str (.pair (.int .i64) (.pair (.int .i64) .unit))))))), .vec (.cell 100000 1) 20000001 3 (.int .i64), .vec (.cell 100000 2) 20000002 3 (.int .i64), .ptr (.sv 0) 100000 0, .box 7 7, .box 100000 3] (fun x => F61j4 n x.2.1 x.2.2.2.1 x.2.2.2.2.1 x.2.2.2.2.2.1 x.2.2.2.2.2.2.1 x.2.2.2.2.2.2.2.1 x.2.2.2.2.2.2.2.2.1 x.2.2.2.2.2.2.2.2.2.1 x.2.2.2.2.2.2.2.2.2.2.1 x.2.2.2.2.2.2.2.2.2.2.2.1 x.2.2.2.2.2.2.2.2.2.2.2.2.1 x.2.2.2.2.2.2.2.2.2.2.2.2.2.1) .leaf .leaf) .leaf)) .leaf)))))))

theorem K61 (n : Nat) : PlOK (G61 n) noInl lay0 173 (P61 n) c61 (fnK lay0 [.tmp 6] [.box (.pair (.vec 81 (.pair (.int .i64) (.pair .bool (.pair (.int .i64) (.pair .str (.pair .str (.pair (.int .i64) (.pair (.int .i64) .unit)))))))) (.pair (.vec 3 (.int .i64)) (.pair (.vec 3 (.int .i64)) .unit))), .val (.int .i64), .val (.pair (.int .i64) (.pair .bool (.pair (.int .i64) (.pair .str (.pair .str (.pair (.int .i64) (.pair (.int .i64) .unit)))))))] [.val (.int .i64)] [.pair (.slice (.pair (.int .i64) (.pair .bool (.pair (.int .i64) (.pair .str (.pair .str (.pair (.int .i64) (.pair (.int .i64) .unit)))))))) (.pair (.slice (.int .i64)) (.pair (.slice (.int .i64)) .unit)), .int .i64]) :=
  ⟨trivial, ⟨by kernel_rfl, fun x => by kernel_rfl, trivial, ⟨by kernel_rfl, fun x => by kernel_rfl, trivial, ⟨trivial, ⟨by kernel_rfl, fun x => by kernel_rfl, trivial, ⟨trivial, ⟨by kernel_rfl, fun x => by kernel_rfl, ⟨trivial, ⟨⟨by kernel_rfl, fun x => by kernel_rfl, trivial, trivial⟩, trivial⟩⟩, trivial⟩⟩⟩⟩⟩⟩⟩

theorem E61 (n : Nat) (a0 : (List (Int × (Bool × (Int × (List UInt8 × (List UInt8 × (Int × (Int × Unit))))))) × (List Int × (List Int × Unit)))) (a1 : Int) (a2 : (Int × (Bool × (Int × (List UInt8 × (List UInt8 × (Int × (Int × Unit)))))))) : F61 n a0 a1 a2 = fnE [.box (.pair (.vec 81 (.pair (.int .i64) (.pair .bool (.pair (.int .i64) (.pair .str (.pair .str (.pair (.int .i64) (.pair (.int .i64) .unit)))))))) (.pair (.vec 3 (.int .i64)) (.pair (.vec 3 (.int .i64)) .unit))), .val (.int .i64), .val (.pair (.int .i64) (.pair .bool (.pair (.int .i64) (.pair .str (.pair .str (.pair (.int .i64) (.pair (.int .i64) .unit)))))))] (argDs [.pair (.slice (.pair (.int .i64) (.pair .bool (.pair (.int .i64) (.pair .str (.pair .str (.pair (.int .i64) (.pair (.int .i64) .unit)))))))) (.pair (.slice (.int .i64)) (.pair (.slice (.int .i64)) .unit)), .int .i64, .pair (.int .i64) (.pair .bool (.pair (.int .i64) (.pair .str (.pair .str (.pair (.int .i64) (.pair (.int .i64) .unit))))))] (a0, a1, a2)) (fun st => ev (G61 n) noInl lay0 173 c61 (P61 n) st (fnK lay0 [.tmp 6] [.box (.pair (.vec 81 (.pair (.int .i64) (.pair .bool (.pair (.int .i64) (.pair .str (.pair .str (.pair (.int .i64) (.pair (.int .i64) .unit)))))))) (.pair (.vec 3 (.int .i64)) (.pair (.vec 3 (.int .i64)) .unit))), .val (.int .i64), .val (.pair (.int .i64) (.pair .bool (.pair (.int .i64) (.pair .str (.pair .str (.pair (.int .i64) (.pair (.int .i64) .unit)))))))] [.val (.int .i64)] [.pair (.slice (.pair (.int .i64) (.pair .bool (.pair (.int .i64) (.pair .str (.pair .str (.pair (.int .i64) (.pair (.int .i64) .unit)))))))) (.pair (.slice (.int .i64)) (.pair (.slice (.int .i64)) .unit)), .int .i64])) := by kernel_rfl

theorem T61 (n : Nat) : ToldIo Tryd.prog 61 [.box (.pair (.vec 81 (.pair (.int .i64) (.pair .bool (.pair (.int .i64) (.pair .str (.pair .str (.pair (.int .i64) (.pair (.int .i64) .unit)))))))) (.pair (.vec 3 (.int .i64)) (.pair (.vec 3 (.int .i64)) .unit))), .val (.int .i64), .val (.pair (.int .i64) (.pair .bool (.pair (.int .i64) (.pair .str (.pair .str (.pair (.int .i64) (.pair (.int .i64) .unit)))))))] [.val (.int .i64)] [.pair (.slice (.pair (.int .i64) (.pair .bool (.pair (.int .i64) (.pair .str (.pair .str (.pair (.int .i64) (.pair (.int .i64) .unit)))))))) (.pair (.slice (.int .i64)) (.pair (.slice (.int .i64)) .unit)), .int .i64, .pair (.int .i64) (.pair .bool (.pair (.int .i64) (.pair .str (.pair .str (.pair (.int .i64) (.pair (.int .i64) .unit))))))] [.pair (.slice (.pair (.int .i64) (.pair .bool (.pair (.int .i64) (.pair .str (.pair .str (.pair (.int .i64) (.pair (.int .i64) .unit)))))))) (.pair (.slice (.int .i64)) (.pair (.slice (.int .i64)) .unit)), .int .i64] (fun x => F61 n x.1 x.2.1 x.2.2) := by
  rintro ⟨a0, a1, a2⟩ r h
  exact fn_sound lay0_ok mixed (rvs := [.tmp 6]) (by kernel_rfl : Tryd.prog.funcs[61]? = some Tryd.f61) (by kernel_rfl : Tryd.f61.body = some c61) (by kernel_rfl) (by kernel_rfl) (by kernel_rfl) (GO61 n) noInl_ok (K61 n) ((E61 n a0 a1 a2).symm.trans h)

/-! ### orthoepy/pointer.Index -/

def F15l1F (n : Nat) (rF15l1 : List UInt8 → Int → Int → Int → Option (Int × Bool)) (t0 : List UInt8) (t4 : Int) (t24 : Int) (t25 : Int) : Option (Int × Bool) :=
  (bif (decide (t25 < t24)) then
    (bif inB t25 (t0).length then
    (bif (decide ((((t0).getD (Int.toNat t25) 0).toNat : Int) < 48)) then
      some (0, false)
    else
      (bif inB t25 (t0).length then
      (bif (decide ((((t0).getD (Int.toNat t25) 0).toNat : Int) > 57)) then
        some (0, false)
      else
        (bif inB t25 (t0).length then
        rF15l1 t0 (IntKind.wrap .i64 ((IntKind.wrap .i64 (10 * t4)) + (IntKind.wrap .i64 ((IntKind.wrap .u8 ((((t0).getD (Int.toNat t25) 0).toNat : Int) - 48)))))) t24 (IntKind.wrap .i64 (t25 + 1))
        else none))
      else none))
    else none)
  else
    some (t4, true))
def F15l1 (n : Nat) : Nat → List UInt8 → Int → Int → Int → Option (Int × Bool)
  | 0, _, _, _, _ => none
  | m + 1, t0, t4, t24, t25 => F15l1F n (F15l1 n m) t0 t4 t24 t25

def F15j0 (n : Nat) (t0 : List UInt8) : Option (Int × Bool) :=
  F15l1 n n t0 0 ((t0).length : Int) 0

def F15 (n : Nat) (a0 : List UInt8) : Option (Int × Bool) :=
  (bif (a0 == ([] : List UInt8)) then
    some (0, false)
  else
    (bif (decide (((a0).length : Int) > 9)) then
      some (0, false)
    else
      (bif inB 0 (a0).length then
      (bif ((((a0).getD (Int.toNat 0) 0).toNat : Int) == 48) then
        (bif (decide (((a0).length : Int) > 1)) then
          some (0, false)
        else
          F15j0 n a0)
      else
        F15j0 n a0)
      else none)))

noncomputable def c15 : Code := Tryd.f15.body.getD .skip

noncomputable def G15 (n : Nat) : Ctx (Res [.int .i64, .bool]) := noFns

theorem GO15 (n : Nat) : CtxOK Tryd.prog lay0 (G15 n) := noFns_ok

noncomputable def P15 (n : Nat) : Pl (Res [.int .i64, .bool]) :=
  (.two .leaf (.join [.val (.tmp 0) .str] (fun x => F15j0 n x.1) .leaf (.two .leaf (.two (.two .leaf (.one (.loop [.val (.tmp 0) .str, .val (.tmp 4) (.int .i64), .val (.tmp 24) (.int .i64), .val (.tmp 25) (.int .i64)] n (fun m x => F15l1 n m x.1 x.2.1 x.2.2.1 x.2.2.2.1) (fun _ => .leaf)))) .leaf))))

theorem K15 (n : Nat) : PlOK (G15 n) noInl lay0 48 (P15 n) c15 (fnK lay0 [.tmp 2, .tmp 3] [.val .str] [.val (.int .i64), .val .bool] [.int .i64, .bool]) :=
  ⟨trivial, ⟨by kernel_rfl, fun x => by kernel_rfl, trivial, ⟨trivial, ⟨⟨trivial, ⟨by kernel_rfl, fun x => by kernel_rfl, fun m => ⟨fun x => by kernel_rfl, trivial⟩⟩⟩, trivial⟩⟩⟩⟩

theorem E15 (n : Nat) (a0 : List UInt8) : F15 n a0 = fnE [.val .str] (argDs [.str] (a0)) (fun st => ev (G15 n) noInl lay0 48 c15 (P15 n) st (fnK lay0 [.tmp 2, .tmp 3] [.val .str] [.val (.int .i64), .val .bool] [.int .i64, .bool])) := by kernel_rfl

theorem T15 (n : Nat) : Told Tryd.prog 15 [.str] [.int .i64, .bool] (fun x => F15 n x) := by
  rintro a0 r h
  exact calls_plain (fn_sound lay0_ok mixed (rvs := [.tmp 2, .tmp 3]) (by kernel_rfl : Tryd.prog.funcs[15]? = some Tryd.f15) (by kernel_rfl : Tryd.f15.body = some c15) (by kernel_rfl) (by kernel_rfl) (by kernel_rfl) (GO15 n) noInl_ok (K15 n) ((E15 n a0).symm.trans h)) rfl rfl rfl rfl

/-! ### orthoepy/orthoepyref25.Index -/

def F16l1F (n : Nat) (rF16l1 : List UInt8 → Int → Int → Option (Int × Bool)) (t0 : List UInt8) (t4 : Int) (t5 : Int) : Option (Int × Bool) :=
  (bif (decide (t5 < ((t0).length : Int))) then
    (bif inB t5 (t0).length then
    (bif (decide ((((t0).getD (Int.toNat t5) 0).toNat : Int) < 48)) then
      some (0, false)
    else
      (bif inB t5 (t0).length then
      (bif (decide ((((t0).getD (Int.toNat t5) 0).toNat : Int) > 57)) then
        some (0, false)
      else
        (bif inB t5 (t0).length then
        rF16l1 t0 (IntKind.wrap .i64 ((IntKind.wrap .i64 (10 * t4)) + (IntKind.wrap .i64 ((IntKind.wrap .u8 ((((t0).getD (Int.toNat t5) 0).toNat : Int) - 48)))))) (IntKind.wrap .i64 (t5 + 1))
        else none))
      else none))
    else none)
  else
    some (t4, true))
def F16l1 (n : Nat) : Nat → List UInt8 → Int → Int → Option (Int × Bool)
  | 0, _, _, _ => none
  | m + 1, t0, t4, t5 => F16l1F n (F16l1 n m) t0 t4 t5

def F16j0 (n : Nat) (t0 : List UInt8) : Option (Int × Bool) :=
  F16l1 n n t0 0 0

def F16 (n : Nat) (a0 : List UInt8) : Option (Int × Bool) :=
  (bif (((a0).length : Int) == 0) then
    some (0, false)
  else
    (bif (decide (((a0).length : Int) > 9)) then
      some (0, false)
    else
      (bif (decide (((a0).length : Int) > 1)) then
        (bif inB 0 (a0).length then
        (bif ((((a0).getD (Int.toNat 0) 0).toNat : Int) == 48) then
          some (0, false)
        else
          F16j0 n a0)
        else none)
      else
        F16j0 n a0)))

noncomputable def c16 : Code := Tryd.f16.body.getD .skip

noncomputable def G16 (n : Nat) : Ctx (Res [.int .i64, .bool]) := noFns

theorem GO16 (n : Nat) : CtxOK Tryd.prog lay0 (G16 n) := noFns_ok

noncomputable def P16 (n : Nat) : Pl (Res [.int .i64, .bool]) :=
  (.two .leaf (.join [.val (.tmp 0) .str] (fun x => F16j0 n x.1) .leaf (.two .leaf (.two (.two .leaf (.one (.loop [.val (.tmp 0) .str, .val (.tmp 4) (.int .i64), .val (.tmp 5) (.int .i64)] n (fun m x => F16l1 n m x.1 x.2.1 x.2.2.1) (fun _ => .leaf)))) .leaf))))

theorem K16 (n : Nat) : PlOK (G16 n) noInl lay0 49 (P16 n) c16 (fnK lay0 [.tmp 2, .tmp 3] [.val .str] [.val (.int .i64), .val .bool] [.int .i64, .bool]) :=
  ⟨trivial, ⟨by kernel_rfl, fun x => by kernel_rfl, trivial, ⟨trivial, ⟨⟨trivial, ⟨by kernel_rfl, fun x => by kernel_rfl, fun m => ⟨fun x => by kernel_rfl, trivial⟩⟩⟩, trivial⟩⟩⟩⟩

theorem E16 (n : Nat) (a0 : List UInt8) : F16 n a0 = fnE [.val .str] (argDs [.str] (a0)) (fun st => ev (G16 n) noInl lay0 49 c16 (P16 n) st (fnK lay0 [.tmp 2, .tmp 3] [.val .str] [.val (.int .i64), .val .bool] [.int .i64, .bool])) := by kernel_rfl

theorem T16 (n : Nat) : Told Tryd.prog 16 [.str] [.int .i64, .bool] (fun x => F16 n x) := by
  rintro a0 r h
  exact calls_plain (fn_sound lay0_ok mixed (rvs := [.tmp 2, .tmp 3]) (by kernel_rfl : Tryd.prog.funcs[16]? = some Tryd.f16) (by kernel_rfl : Tryd.f16.body = some c16) (by kernel_rfl) (by kernel_rfl) (by kernel_rfl) (GO16 n) noInl_ok (K16 n) ((E16 n a0).symm.trans h)) rfl rfl rfl rfl

/-! ### orthoepy/orthoepylaw25.same -/

def F17l0F (n : Nat) (rF17l0 : List (List UInt8) → List (List UInt8) → Int → Option (Bool)) (t0 : List (List UInt8)) (t1 : List (List UInt8)) (t5 : Int) : Option (Bool) :=
  (bif (decide (t5 < ((t0).length : Int))) then
    (bif inB t5 (t0).length then
    (bif inB t5 (t1).length then
    (bif (!(((t0).getD (Int.toNat t5) (Ty.dflt .str)) == ((t1).getD (Int.toNat t5) (Ty.dflt .str)))) then
      some false
    else
      rF17l0 t0 t1 (IntKind.wrap .i64 (t5 + 1)))
    else none)
    else none)
  else
    some true)
def F17l0 (n : Nat) : Nat → List (List UInt8) → List (List UInt8) → Int → Option (Bool)
  | 0, _, _, _ => none
  | m + 1, t0, t1, t5 => F17l0F n (F17l0 n m) t0 t1 t5

def F17 (n : Nat) (a0 : List (List UInt8)) (a1 : List (List UInt8)) : Option (Bool) :=
  (bif (((a0).length : Int) != ((a1).length : Int)) then
    some false
  else
    F17l0 n n a0 a1 0)

noncomputable def c17 : Code := Tryd.f17.body.getD .skip

noncomputable def G17 (n : Nat) : Ctx (Res [.bool]) := noFns

theorem GO17 (n : Nat) : CtxOK Tryd.prog lay0 (G17 n) := noFns_ok

noncomputable def P17 (n : Nat) : Pl (Res [.bool]) :=
  (.two .leaf (.two .leaf (.two (.two .leaf (.one (.loop [.val (.tmp 0) (.slice .str), .val (.tmp 1) (.slice .str), .val (.tmp 5) (.int .i64)] n (fun m x => F17l0 n m x.1 x.2.1 x.2.2.1) (fun _ => .leaf)))) .leaf)))

theorem K17 (n : Nat) : PlOK (G17 n) noInl lay0 26 (P17 n) c17 (fnK lay0 [.tmp 4] [.val (.slice .str), .val (.slice .str)] [.val .bool] [.bool]) :=
  ⟨trivial, ⟨trivial, ⟨⟨trivial, ⟨by kernel_rfl, fun x => by kernel_rfl, fun m => ⟨fun x => by kernel_rfl, trivial⟩⟩⟩, trivial⟩⟩⟩

theorem E17 (n : Nat) (a0 : List (List UInt8)) (a1 : List (List UInt8)) : F17 n a0 a1 = fnE [.val (.slice .str), .val (.slice .str)] (argDs [.slice .str, .slice .str] (a0, a1)) (fun st => ev (G17 n) noInl lay0 26 c17 (P17 n) st (fnK lay0 [.tmp 4] [.val (.slice .str), .val (.slice .str)] [.val .bool] [.bool])) := by kernel_rfl

theorem T17 (n : Nat) : Told Tryd.prog 17 [.slice .str, .slice .str] [.bool] (fun x => F17 n x.1 x.2) := by
  rintro ⟨a0, a1⟩ r h
  exact calls_plain (fn_sound lay0_ok mixed (rvs := [.tmp 4]) (by kernel_rfl : Tryd.prog.funcs[17]? = some Tryd.f17) (by kernel_rfl : Tryd.f17.body = some c17) (by kernel_rfl) (by kernel_rfl) (by kernel_rfl) (GO17 n) noInl_ok (K17 n) ((E17 n a0 a1).symm.trans h)) rfl rfl rfl rfl

/-! ### orthoepy/orthoepylaw25.few -/

def F11l0F (n : Nat) (rF11l0 : List (List UInt8) → Int → Option (Bool)) (t0 : List (List UInt8)) (t3 : Int) : Option (Bool) :=
  (bif (decide (t3 < ((t0).length : Int))) then
    (bif inB t3 (t0).length then
    (bif (decide (((((t0).getD (Int.toNat t3) (Ty.dflt .str))).length : Int) > 60)) then
      some false
    else
      rF11l0 t0 (IntKind.wrap .i64 (t3 + 1)))
    else none)
  else
    some (decide (((t0).length : Int) ≤ 20)))
def F11l0 (n : Nat) : Nat → List (List UInt8) → Int → Option (Bool)
  | 0, _, _ => none
  | m + 1, t0, t3 => F11l0F n (F11l0 n m) t0 t3

def F11 (n : Nat) (a0 : List (List UInt8)) : Option (Bool) :=
  F11l0 n n a0 0

noncomputable def c11 : Code := Tryd.f11.body.getD .skip

noncomputable def G11 (n : Nat) : Ctx (Res [.bool]) := noFns

theorem GO11 (n : Nat) : CtxOK Tryd.prog lay0 (G11 n) := noFns_ok

noncomputable def P11 (n : Nat) : Pl (Res [.bool]) :=
  (.two .leaf (.two (.two .leaf (.one (.loop [.val (.tmp 0) (.slice .str), .val (.tmp 3) (.int .i64)] n (fun m x => F11l0 n m x.1 x.2.1) (fun _ => .leaf)))) .leaf))

theorem K11 (n : Nat) : PlOK (G11 n) noInl lay0 19 (P11 n) c11 (fnK lay0 [.tmp 2] [.val (.slice .str)] [.val .bool] [.bool]) :=
  ⟨trivial, ⟨⟨trivial, ⟨by kernel_rfl, fun x => by kernel_rfl, fun m => ⟨fun x => by kernel_rfl, trivial⟩⟩⟩, trivial⟩⟩

theorem E11 (n : Nat) (a0 : List (List UInt8)) : F11 n a0 = fnE [.val (.slice .str)] (argDs [.slice .str] (a0)) (fun st => ev (G11 n) noInl lay0 19 c11 (P11 n) st (fnK lay0 [.tmp 2] [.val (.slice .str)] [.val .bool] [.bool])) := by kernel_rfl

theorem T11 (n : Nat) : Told Tryd.prog 11 [.slice .str] [.bool] (fun x => F11 n x) := by
  rintro a0 r h
  exact calls_plain (fn_sound lay0_ok mixed (rvs := [.tmp 2]) (by kernel_rfl : Tryd.prog.funcs[11]? = some Tryd.f11) (by kernel_rfl : Tryd.f11.body = some c11) (by kernel_rfl) (by kernel_rfl) (by kernel_rfl) (GO11 n) noInl_ok (K11 n) ((E11 n a0).symm.trans h)) rfl rfl rfl rfl

/-! ### orthoepy/pointer.token -/

def F36 (n : Nat) (a0 : List UInt8) : Option ((List UInt8)) :=
  (match F38 n a0 ([126, 49] : List UInt8) ([47] : List UInt8) with
  | some r1 =>
  (match F38 n r1 ([126, 48] : List UInt8) ([126] : List UInt8) with
  | some r2 =>
  some r2
  | none => none)
  | none => none)

noncomputable def c36 : Code := Tryd.f36.body.getD .skip

noncomputable def G36 (n : Nat) : Ctx (Res [.str]) := ent 38 [.str, .str, .str] [.str] (fun x => F38 n x.1 x.2.1 x.2.2) (noFns)

theorem GO36 (n : Nat) : CtxOK Tryd.prog lay0 (G36 n) := ent_ok (T38 n) (fun _ _ h => h) (noFns_ok)

noncomputable def P36 (n : Nat) : Pl (Res [.str]) :=
  .leaf

theorem K36 (n : Nat) : PlOK (G36 n) noInl lay0 6 (P36 n) c36 (fnK lay0 [.tmp 2] [.val .str] [.val .str] [.str]) :=
  trivial

theorem E36 (n : Nat) (a0 : List UInt8) : F36 n a0 = fnE [.val .str] (argDs [.str] (a0)) (fun st => ev (G36 n) noInl lay0 6 c36 (P36 n) st (fnK lay0 [.tmp 2] [.val .str] [.val .str] [.str])) := by kernel_rfl

theorem T36 (n : Nat) : Told Tryd.prog 36 [.str] [.str] (fun x => F36 n x) := by
  rintro a0 r h
  exact calls_plain (fn_sound lay0_ok mixed (rvs := [.tmp 2]) (by kernel_rfl : Tryd.prog.funcs[36]? = some Tryd.f36) (by kernel_rfl : Tryd.f36.body = some c36) (by kernel_rfl) (by kernel_rfl) (by kernel_rfl) (GO36 n) noInl_ok (K36 n) ((E36 n a0).symm.trans h)) rfl rfl rfl rfl

/-! ### orthoepy/utf8.size -/

def F66 (n : Nat) (a0 : Int) : Option (Int) :=
  (bif (a0 == 192) then
    some 0
  else
    (bif (a0 == 193) then
      some 0
    else
      (bif (decide (a0 > 244)) then
        some 0
      else
        (bif decide (0 ≤ 3) then
        (bif (inB (Int.fdiv a0 (2 ^ (min (Int.toNat (3)) (IntKind.bits .u8)))) 32 && true) then
        some ((([1, 1, 1, 1, 1, 1, 1, 1, 1, 1, 1, 1, 1, 1, 1, 1, 0, 0, 0, 0, 0, 0, 0, 0, 2, 2, 2, 2, 3, 3, 4, 0] : List Int)).getD (Int.toNat (Int.fdiv a0 (2 ^ (min (Int.toNat (3)) (IntKind.bits .u8))))) (Ty.dflt (.int .i64)))
        else none)
        else none))))

noncomputable def c66 : Code := Tryd.f66.body.getD .skip

noncomputable def G66 (n : Nat) : Ctx (Res [.int .i64]) := noFns

theorem GO66 (n : Nat) : CtxOK Tryd.prog lay0 (G66 n) := noFns_ok

noncomputable def P66 (n : Nat) : Pl (Res [.int .i64]) :=
  .leaf

theorem K66 (n : Nat) : PlOK (G66 n) noInl lay0 19 (P66 n) c66 (fnK lay0 [.tmp 2] [.val (.int .u8)] [.val (.int .i64)] [.int .i64]) :=
  trivial

theorem E66 (n : Nat) (a0 : Int) : F66 n a0 = fnE [.val (.int .u8)] (argDs [.int .u8] (a0)) (fun st => ev (G66 n) noInl lay0 19 c66 (P66 n) st (fnK lay0 [.tmp 2] [.val (.int .u8)] [.val (.int .i64)] [.int .i64])) := by kernel_rfl

theorem T66 (n : Nat) : Told Tryd.prog 66 [.int .u8] [.int .i64] (fun x => F66 n x) := by
  rintro a0 r h
  exact calls_plain (fn_sound lay0_ok mixed (rvs := [.tmp 2]) (by kernel_rfl : Tryd.prog.funcs[66]? = some Tryd.f66) (by kernel_rfl : Tryd.f66.body = some c66) (by kernel_rfl) (by kernel_rfl) (by kernel_rfl) (GO66 n) noInl_ok (K66 n) ((E66 n a0).symm.trans h)) rfl rfl rfl rfl

/-! ### orthoepy/utf8.second -/

def F67 (n : Nat) (a0 : Int) (a1 : Int) : Option (Bool) :=
  (bif (decide (a0 < 224)) then
    (bif (decide (a1 ≥ 128)) then
      some (decide (a1 ≤ 191))
    else
      some false)
  else
    (bif inB (IntKind.wrap .u8 (a0 - 224)) (([160, 128, 128, 128, 128, 128, 128, 128, 128, 128, 128, 128, 128, 128, 128, 128, 144, 128, 128, 128, 128] : List UInt8)).length then
    (bif (decide (a1 ≥ (((([160, 128, 128, 128, 128, 128, 128, 128, 128, 128, 128, 128, 128, 128, 128, 128, 144, 128, 128, 128, 128] : List UInt8)).getD (Int.toNat (IntKind.wrap .u8 (a0 - 224))) 0).toNat : Int))) then
      (bif inB (IntKind.wrap .u8 (a0 - 224)) (([191, 191, 191, 191, 191, 191, 191, 191, 191, 191, 191, 191, 191, 159, 191, 191, 191, 191, 191, 191, 143] : List UInt8)).length then
      some (decide (a1 ≤ (((([191, 191, 191, 191, 191, 191, 191, 191, 191, 191, 191, 191, 191, 159, 191, 191, 191, 191, 191, 191, 143] : List UInt8)).getD (Int.toNat (IntKind.wrap .u8 (a0 - 224))) 0).toNat : Int)))
      else none)
    else
      some false)
    else none))

noncomputable def c67 : Code := Tryd.f67.body.getD .skip

noncomputable def G67 (n : Nat) : Ctx (Res [.bool]) := noFns

theorem GO67 (n : Nat) : CtxOK Tryd.prog lay0 (G67 n) := noFns_ok

noncomputable def P67 (n : Nat) : Pl (Res [.bool]) :=
  .leaf

theorem K67 (n : Nat) : PlOK (G67 n) noInl lay0 26 (P67 n) c67 (fnK lay0 [.tmp 4] [.val (.int .u8), .val (.int .u8)] [.val .bool] [.bool]) :=
  trivial

theorem E67 (n : Nat) (a0 : Int) (a1 : Int) : F67 n a0 a1 = fnE [.val (.int .u8), .val (.int .u8)] (argDs [.int .u8, .int .u8] (a0, a1)) (fun st => ev (G67 n) noInl lay0 26 c67 (P67 n) st (fnK lay0 [.tmp 4] [.val (.int .u8), .val (.int .u8)] [.val .bool] [.bool])) := by kernel_rfl

theorem T67 (n : Nat) : Told Tryd.prog 67 [.int .u8, .int .u8] [.bool] (fun x => F67 n x.1 x.2) := by
  rintro ⟨a0, a1⟩ r h
  exact calls_plain (fn_sound lay0_ok mixed (rvs := [.tmp 4]) (by kernel_rfl : Tryd.prog.funcs[67]? = some Tryd.f67) (by kernel_rfl : Tryd.f67.body = some c67) (by kernel_rfl) (by kernel_rfl) (by kernel_rfl) (GO67 n) noInl_ok (K67 n) ((E67 n a0 a1).symm.trans h)) rfl rfl rfl rfl

/-! ### orthoepy/utf8.New -/

def F53 (n : Nat) : Option ((Int × (Int × (Int × (Int × Unit))))) :=
  some (0, (0, (0, (0, ()))))

noncomputable def c53 : Code := Tryd.f53.body.getD .skip

noncomputable def G53 (n : Nat) : Ctx (Res [.pair (.int .u8) (.pair (.int .i32) (.pair (.int .i64) (.pair (.int .i64) .unit)))]) := noFns

theorem GO53 (n : Nat) : CtxOK Tryd.prog lay0 (G53 n) := noFns_ok

noncomputable def P53 (n : Nat) : Pl (Res [.pair (.int .u8) (.pair (.int .i32) (.pair (.int .i64) (.pair (.int .i64) .unit)))]) :=
  .leaf

theorem K53 (n : Nat) : PlOK (G53 n) noInl lay0 3 (P53 n) c53 (fnK lay0 [.tmp 0] [] [.box (.pair (.val (.int .u8)) (.pair (.val (.int .i32)) (.pair (.val (.int .i64)) (.pair (.val (.int .i64)) .unit))))] [.pair (.int .u8) (.pair (.int .i32) (.pair (.int .i64) (.pair (.int .i64) .unit)))]) :=
  trivial

theorem E53 (n : Nat) : F53 n = fnE [] (argDs [] ()) (fun st => ev (G53 n) noInl lay0 3 c53 (P53 n) st (fnK lay0 [.tmp 0] [] [.box (.pair (.val (.int .u8)) (.pair (.val (.int .i32)) (.pair (.val (.int .i64)) (.pair (.val (.int .i64)) .unit))))] [.pair (.int .u8) (.pair (.int .i32) (.pair (.int .i64) (.pair (.int .i64) .unit)))])) := by kernel_rfl

theorem T53 (n : Nat) : ToldIo Tryd.prog 53 [] [.box (.pair (.val (.int .u8)) (.pair (.val (.int .i32)) (.pair (.val (.int .i64)) (.pair (.val (.int .i64)) .unit))))] [] [.pair (.int .u8) (.pair (.int .i32) (.pair (.int .i64) (.pair (.int .i64) .unit)))] (fun x => F53 n) := by
  rintro _ r h
  exact fn_sound lay0_ok mixed (rvs := [.tmp 0]) (by kernel_rfl : Tryd.prog.funcs[53]? = some Tryd.f53) (by kernel_rfl : Tryd.f53.body = some c53) (by kernel_rfl) (by kernel_rfl) (by kernel_rfl) (GO53 n) noInl_ok (K53 n) ((E53 n).symm.trans h)

/-! ### (*orthoepy/utf8.Reader).Push -/

def F54j0 (n : Nat) (t1 : Int) (b100000_0 : Int) (b100000_1 : Int) (b100000_2 : Int) (b100000_3 : Int) : Option ((Int × (Int × (Int × (Int × Unit)))) × Int × Int) :=
  (bif decide (0 ≤ 6) then
  (bif (decide ((IntKind.wrap .i64 (b100000_2 + 1)) < b100000_3)) then
    some ((b100000_0, ((IntKind.wrap .i32 (BitVec.ofInt (IntKind.bits .i32) (IntKind.wrap .i32 (b100000_1 * 2 ^ (min (Int.toNat (6)) (IntKind.bits .i32)))) ||| BitVec.ofInt (IntKind.bits .i32) (IntKind.wrap .i32 ((IntKind.wrap .u8 (BitVec.ofInt (IntKind.bits .u8) t1 &&& BitVec.ofInt (IntKind.bits .u8) 63).toNat)))).toNat), ((IntKind.wrap .i64 (b100000_2 + 1)), (b100000_3, ())))), 0, 1)
  else
    some ((b100000_0, ((IntKind.wrap .i32 (BitVec.ofInt (IntKind.bits .i32) (IntKind.wrap .i32 (b100000_1 * 2 ^ (min (Int.toNat (6)) (IntKind.bits .i32)))) ||| BitVec.ofInt (IntKind.bits .i32) (IntKind.wrap .i32 ((IntKind.wrap .u8 (BitVec.ofInt (IntKind.bits .u8) t1 &&& BitVec.ofInt (IntKind.bits .u8) 63).toNat)))).toNat), (0, (b100000_3, ())))), (IntKind.wrap .i32 (BitVec.ofInt (IntKind.bits .i32) (IntKind.wrap .i32 (b100000_1 * 2 ^ (min (Int.toNat (6)) (IntKind.bits .i32)))) ||| BitVec.ofInt (IntKind.bits .i32) (IntKind.wrap .i32 ((IntKind.wrap .u8 (BitVec.ofInt (IntKind.bits .u8) t1 &&& BitVec.ofInt (IntKind.bits .u8) 63).toNat)))).toNat), 2))
  else none)

def F54 (n : Nat) (a0 : (Int × (Int × (Int × (Int × Unit))))) (a1 : Int) : Option ((Int × (Int × (Int × (Int × Unit)))) × Int × Int) :=
  (bif (a0.2.2.1 == 0) then
    (match F66 n a1 with
    | some r1 =>
    (bif (r1 == 1) then
      some (a0, (IntKind.wrap .i32 (a1)), 2)
    else
      (bif (a0.2.2.1 == 0) then
        (match F66 n a1 with
        | some r2 =>
        (bif (r2 == 0) then
          some (a0, 0, 3)
        else
          (bif (a0.2.2.1 == 0) then
            (match F66 n a1 with
            | some r3 =>
            (bif decide (0 ≤ r3) then
            some ((a1, ((IntKind.wrap .i32 (BitVec.ofInt (IntKind.bits .i32) (IntKind.wrap .i32 (a1)) &&& BitVec.ofInt (IntKind.bits .i32) (Int.fdiv 127 (2 ^ (min (Int.toNat (r3)) (IntKind.bits .i32))))).toNat), (1, (r3, ())))), 0, 1)
            else none)
            | none => none)
          else
            (bif (a0.2.2.1 == 1) then
              (match F67 n a0.1 a1 with
              | some r4 =>
              (bif (!r4) then
                (bif (!r4) then
                  some (a0, 0, 3)
                else
                  F54j0 n a1 a0.1 a0.2.1 a0.2.2.1 a0.2.2.2.1)
              else
                (bif ((IntKind.wrap .u8 (BitVec.ofInt (IntKind.bits .u8) a1 &&& ~~~ (BitVec.ofInt (IntKind.bits .u8) 63)).toNat) != 128) then
                  some (a0, 0, 3)
                else
                  F54j0 n a1 a0.1 a0.2.1 a0.2.2.1 a0.2.2.2.1))
              | none => none)
            else
              (bif ((IntKind.wrap .u8 (BitVec.ofInt (IntKind.bits .u8) a1 &&& ~~~ (BitVec.ofInt (IntKind.bits .u8) 63)).toNat) != 128) then
                some (a0, 0, 3)
              else
                F54j0 n a1 a0.1 a0.2.1 a0.2.2.1 a0.2.2.2.1))))
        | none => none)
      else
        (bif (a0.2.2.1 == 0) then
          (match F66 n a1 with
          | some r5 =>
          (bif decide (0 ≤ r5) then
          some ((a1, ((IntKind.wrap .i32 (BitVec.ofInt (IntKind.bits .i32) (IntKind.wrap .i32 (a1)) &&& BitVec.ofInt (IntKind.bits .i32) (Int.fdiv 127 (2 ^ (min (Int.toNat (r5)) (IntKind.bits .i32))))).toNat), (1, (r5, ())))), 0, 1)
          else none)
          | none => none)
        else
          (bif (a0.2.2.1 == 1) then
            (match F67 n a0.1 a1 with
            | some r6 =>
            (bif (!r6) then
              (bif (!r6) then
                some (a0, 0, 3)
              else
                F54j0 n a1 a0.1 a0.2.1 a0.2.2.1 a0.2.2.2.1)
            else
              (bif ((IntKind.wrap .u8 (BitVec.ofInt (IntKind.bits .u8) a1 &&& ~~~ (BitVec.ofInt (IntKind.bits .u8) 63)).toNat) != 128) then
                some (a0, 0, 3)
              else
                F54j0 n a1 a0.1 a0.2.1 a0.2.2.1 a0.2.2.2.1))
            | none => none)
          else
            (bif ((IntKind.wrap .u8 (BitVec.ofInt (IntKind.bits .u8) a1 &&& ~~~ (BitVec.ofInt (IntKind.bits .u8) 63)).toNat) != 128) then
              some (a0, 0, 3)
            else
              F54j0 n a1 a0.1 a0.2.1 a0.2.2.1 a0.2.2.2.1)))))
    | none => none)
  else
    (bif (a0.2.2.1 == 0) then
      (match F66 n a1 with
      | some r7 =>
      (bif (r7 == 0) then
        some (a0, 0, 3)
      else
        (bif (a0.2.2.1 == 0) then
          (match F66 n a1 with
          | some r8 =>
          (bif decide (0 ≤ r8) then
          some ((a1, ((IntKind.wrap .i32 (BitVec.ofInt (IntKind.bits .i32) (IntKind.wrap .i32 (a1)) &&& BitVec.ofInt (IntKind.bits .i32) (Int.fdiv 127 (2 ^ (min (Int.toNat (r8)) (IntKind.bits .i32))))).toNat), (1, (r8, ())))), 0, 1)
          else none)
          | none => none)
        else
          (bif (a0.2.2.1 == 1) then
            (match F67 n a0.1 a1 with
            | some r9 =>
            (bif (!r9) then
              (bif (!r9) then
                some (a0, 0, 3)
              else
                F54j0 n a1 a0.1 a0.2.1 a0.2.2.1 a0.2.2.2.1)
            else
              (bif ((IntKind.wrap .u8 (BitVec.ofInt (IntKind.bits .u8) a1 &&& ~~~ (BitVec.ofInt (IntKind.bits .u8) 63)).toNat) != 128) then
                some (a0, 0, 3)
              else
                F54j0 n a1 a0.1 a0.2.1 a0.2.2.1 a0.2.2.2.1))
            | none => none)
          else
            (bif ((IntKind.wrap .u8 (BitVec.ofInt (IntKind.bits .u8) a1 &&& ~~~ (BitVec.ofInt (IntKind.bits .u8) 63)).toNat) != 128) then
              some (a0, 0, 3)
            else
              F54j0 n a1 a0.1 a0.2.1 a0.2.2.1 a0.2.2.2.1))))
      | none => none)
    else
      (bif (a0.2.2.1 == 0) then
        (match F66 n a1 with
        | some r10 =>
        (bif decide (0 ≤ r10) then
        some ((a1, ((IntKind.wrap .i32 (BitVec.ofInt (IntKind.bits .i32) (IntKind.wrap .i32 (a1)) &&& BitVec.ofInt (IntKind.bits .i32) (Int.fdiv 127 (2 ^ (min (Int.toNat (r10)) (IntKind.bits .i32))))).toNat), (1, (r10, ())))), 0, 1)
        else none)
        | none => none)
      else
        (bif (a0.2.2.1 == 1) then
          (match F67 n a0.1 a1 with
          | some r11 =>
          (bif (!r11) then
            (bif (!r11) then
              some (a0, 0, 3)
            else
              F54j0 n a1 a0.1 a0.2.1 a0.2.2.1 a0.2.2.2.1)
          else
            (bif ((IntKind.wrap .u8 (BitVec.ofInt (IntKind.bits .u8) a1 &&& ~~~ (BitVec.ofInt (IntKind.bits .u8) 63)).toNat) != 128) then
              some (a0, 0, 3)
            else
              F54j0 n a1 a0.1 a0.2.1 a0.2.2.1 a0.2.2.2.1))
          | none => none)
        else
          (bif ((IntKind.wrap .u8 (BitVec.ofInt (IntKind.bits .u8) a1 &&& ~~~ (BitVec.ofInt (IntKind.bits .u8) 63)).toNat) != 128) then
            some (a0, 0, 3)
          else
            F54j0 n a1 a0.1 a0.2.1 a0.2.2.1 a0.2.2.2.1)))))

noncomputable def c54 : Code := Tryd.f54.body.getD .skip

noncomputable def G54 (n : Nat) : Ctx (Res [.pair (.int .u8) (.pair (.int .i32) (.pair (.int .i64) (.pair (.int .i64) .unit))), .int .i32, .int .i64]) := ent 66 [.int .u8] [.int .i64] (fun x => F66 n x) (ent 67 [.int .u8, .int .u8] [.bool] (fun x => F67 n x.1 x.2) (noFns))

theorem GO54 (n : Nat) : CtxOK Tryd.prog lay0 (G54 n) := ent_ok (T66 n) (fun _ _ h => h) (ent_ok (T67 n) (fun _ _ h => h) (noFns_ok))

noncomputable def P54 (n : Nat) : Pl (Res [.pair (.int .u8) (.pair (.int .i32) (.pair (.int .i64) (.pair (.int .i64) .unit))), .int .i32, .int .i64]) :=
  (.two .leaf (.join [.ptr (.tmp 0) 100000 0, .val (.tmp 1) (.int .u8), .val (.cell 100000 0) (.int .u8), .val (.cell 100000 1) (.int .i32), .val (.cell 100000 2) (.int .i64), .val (.cell 100000 3) (.int .i64), .ptr (.sv 0) 100000 0, .box 100000 4] (fun x => F54j0 n x.2.1 x.2.2.1 x.2.2.2.1 x.2.2.2.2.1 x.2.2.2.2.2.1) .leaf .leaf))

theorem K54 (n : Nat) : PlOK (G54 n) noInl lay0 112 (P54 n) c54 (fnK lay0 [.tmp 4, .tmp 5] [.box (.pair (.val (.int .u8)) (.pair (.val (.int .i32)) (.pair (.val (.int .i64)) (.pair (.val (.int .i64)) .unit)))), .val (.int .u8)] [.val (.int .i32), .val (.int .i64)] [.pair (.int .u8) (.pair (.int .i32) (.pair (.int .i64) (.pair (.int .i64) .unit))), .int .i32, .int .i64]) :=
  ⟨trivial, ⟨by kernel_rfl, fun x => by kernel_rfl, trivial, trivial⟩⟩

theorem E54 (n : Nat) (a0 : (Int × (Int × (Int × (Int × Unit))))) (a1 : Int) : F54 n a0 a1 = fnE [.box (.pair (.val (.int .u8)) (.pair (.val (.int .i32)) (.pair (.val (.int .i64)) (.pair (.val (.int .i64)) .unit)))), .val (.int .u8)] (argDs [.pair (.int .u8) (.pair (.int .i32) (.pair (.int .i64) (.pair (.int .i64) .unit))), .int .u8] (a0, a1)) (fun st => ev (G54 n) noInl lay0 112 c54 (P54 n) st (fnK lay0 [.tmp 4, .tmp 5] [.box (.pair (.val (.int .u8)) (.pair (.val (.int .i32)) (.pair (.val (.int .i64)) (.pair (.val (.int .i64)) .unit)))), .val (.int .u8)] [.val (.int .i32), .val (.int .i64)] [.pair (.int .u8) (.pair (.int .i32) (.pair (.int .i64) (.pair (.int .i64) .unit))), .int .i32, .int .i64])) := by kernel_rfl

theorem T54 (n : Nat) : ToldIo Tryd.prog 54 [.box (.pair (.val (.int .u8)) (.pair (.val (.int .i32)) (.pair (.val (.int .i64)) (.pair (.val (.int .i64)) .unit)))), .val (.int .u8)] [.val (.int .i32), .val (.int .i64)] [.pair (.int .u8) (.pair (.int .i32) (.pair (.int .i64) (.pair (.int .i64) .unit))), .int .u8] [.pair (.int .u8) (.pair (.int .i32) (.pair (.int .i64) (.pair (.int .i64) .unit))), .int .i32, .int .i64] (fun x => F54 n x.1 x.2) := by
  rintro ⟨a0, a1⟩ r h
  exact fn_sound lay0_ok mixed (rvs := [.tmp 4, .tmp 5]) (by kernel_rfl : Tryd.prog.funcs[54]? = some Tryd.f54) (by kernel_rfl : Tryd.f54.body = some c54) (by kernel_rfl) (by kernel_rfl) (by kernel_rfl) (GO54 n) noInl_ok (K54 n) ((E54 n a0 a1).symm.trans h)

/-! ### (*orthoepy/utf8.Reader).Left -/

def F55 (n : Nat) (a0 : Option (Int × (Int × (Int × (Int × Unit))))) : Option (Int) :=
  (bif (Option.isSome a0) then
  some (Option.getD a0 (Ty.dflt (.pair (.int .u8) (.pair (.int .i32) (.pair (.int .i64) (.pair (.int .i64) .unit)))))).2.2.1
  else none)

noncomputable def c55 : Code := Tryd.f55.body.getD .skip

noncomputable def G55 (n : Nat) : Ctx (Res [.int .i64]) := noFns

theorem GO55 (n : Nat) : CtxOK Tryd.prog lay0 (G55 n) := noFns_ok

noncomputable def P55 (n : Nat) : Pl (Res [.int .i64]) :=
  .leaf

theorem K55 (n : Nat) : PlOK (G55 n) noInl lay0 7 (P55 n) c55 (fnK lay0 [.tmp 2] [.val (.ref (.pair (.int .u8) (.pair (.int .i32) (.pair (.int .i64) (.pair (.int .i64) .unit)))))] [.val (.int .i64)] [.int .i64]) :=
  trivial

theorem E55 (n : Nat) (a0 : Option (Int × (Int × (Int × (Int × Unit))))) : F55 n a0 = fnE [.val (.ref (.pair (.int .u8) (.pair (.int .i32) (.pair (.int .i64) (.pair (.int .i64) .unit)))))] (argDs [.ref (.pair (.int .u8) (.pair (.int .i32) (.pair (.int .i64) (.pair (.int .i64) .unit))))] (a0)) (fun st => ev (G55 n) noInl lay0 7 c55 (P55 n) st (fnK lay0 [.tmp 2] [.val (.ref (.pair (.int .u8) (.pair (.int .i32) (.pair (.int .i64) (.pair (.int .i64) .unit)))))] [.val (.int .i64)] [.int .i64])) := by kernel_rfl

theorem T55 (n : Nat) : Told Tryd.prog 55 [.ref (.pair (.int .u8) (.pair (.int .i32) (.pair (.int .i64) (.pair (.int .i64) .unit))))] [.int .i64] (fun x => F55 n x) := by
  rintro a0 r h
  exact calls_plain (fn_sound lay0_ok mixed (rvs := [.tmp 2]) (by kernel_rfl : Tryd.prog.funcs[55]? = some Tryd.f55) (by kernel_rfl : Tryd.f55.body = some c55) (by kernel_rfl) (by kernel_rfl) (by kernel_rfl) (GO55 n) noInl_ok (K55 n) ((E55 n a0).symm.trans h)) rfl rfl rfl rfl

/-! ### orthoepy/utf8.All -/

def F35l0F (n : Nat) (rF35l0 : List Int → List Int → List Int → Int → Int → Int → Int → Int → Int → Option ((List Int) × Int × Bool)) (t0 : List Int) (t6 : List Int) (t15 : List Int) (t16 : Int) (t17 : Int) (b5000110_0 : Int) (b5000110_1 : Int) (b5000110_2 : Int) (b5000110_3 : Int) : Option ((List Int) × Int × Bool) :=
  (bif (decide (t17 < t16)) then
    (bif inB t17 (t15).length then
    (match F54 n (b5000110_0, (b5000110_1, (b5000110_2, (b5000110_3, ())))) ((t15).getD (Int.toNat t17) (Ty.dflt (.int .u8))) with
    | some r2 =>
    (bif (r2.2.2 == 2) then
      (bif (decide (((t6).length + (([r2.2.1] : List Int)).length) * 4 ≤ maxRoom) && decide ((t6).length + (([r2.2.1] : List Int)).length ≤ maxRoom)) then
      rF35l0 t0 (t6 ++ ([r2.2.1] : List Int)) t15 t16 (IntKind.wrap .i64 (t17 + 1)) r2.1.1 r2.1.2.1 r2.1.2.2.1 r2.1.2.2.2.1
      else none)
    else
      (bif (r2.2.2 == 3) then
        some (([] : List Int), t17, false)
      else
        rF35l0 t0 t6 t15 t16 (IntKind.wrap .i64 (t17 + 1)) r2.1.1 r2.1.2.1 r2.1.2.2.1 r2.1.2.2.2.1))
    | none => none)
    else none)
  else
    (match F55 n (some (b5000110_0, (b5000110_1, (b5000110_2, (b5000110_3, ()))))) with
    | some r3 =>
    (bif (decide (r3 > 0)) then
      some (([] : List Int), ((t0).length : Int), false)
    else
      some (t6, ((t0).length : Int), true))
    | none => none))
def F35l0 (n : Nat) : Nat → List Int → List Int → List Int → Int → Int → Int → Int → Int → Int → Option ((List Int) × Int × Bool)
  | 0, _, _, _, _, _, _, _, _, _ => none
  | m + 1, t0, t6, t15, t16, t17, b5000110_0, b5000110_1, b5000110_2, b5000110_3 => F35l0F n (F35l0 n m) t0 t6 t15 t16 t17 b5000110_0 b5000110_1 b5000110_2 b5000110_3

def F35 (n : Nat) (a0 : List Int) : Option ((List Int) × Int × Bool) :=
  (match F53 n with
  | some r1 =>
  (bif (((((decide (0 ≤ 0) && decide (0 ≤ ((a0).length : Int))) && decide ((Int.toNat ((a0).length : Int)) * 4 ≤ maxRoom)) && decide ((Int.toNat ((a0).length : Int)) ≤ maxRoom)) && true) && true) then
  F35l0 n n a0 (List.replicate (Int.toNat 0) (0 : Int)) a0 ((a0).length : Int) 0 r1.1 r1.2.1 r1.2.2.1 r1.2.2.2.1
  else none)
  | none => none)

noncomputable def lay35 : Lay := layOf layL [(53, .io [] [.box (.pair (.val (.int .u8)) (.pair (.val (.int .i32)) (.pair (.val (.int .i64)) (.pair (.val (.int .i64)) .unit))))]), (54, .io [.box (.pair (.val (.int .u8)) (.pair (.val (.int .i32)) (.pair (.val (.int .i64)) (.pair (.val (.int .i64)) .unit)))), .val (.int .u8)] [.val (.int .i32), .val (.int .i64)]), (55, .borrow [.ref (.pair (.int .u8) (.pair (.int .i32) (.pair (.int .i64) (.pair (.int .i64) .unit))))] false)]
theorem lay35_ok : LayOK Tryd.prog lay35 := layOf_ok layAll (by
  intro p hp
  simp only [List.mem_cons, List.not_mem_nil, or_false] at hp
  rcases hp with rfl | rfl | rfl
  · exact trivial
  · exact trivial
  · exact trivial) layEq

noncomputable def c35 : Code := Tryd.f35.body.getD .skip

noncomputable def G35 (n : Nat) : Ctx (Res [.slice (.int .i32), .int .i64, .bool]) := entIo 53 [] [.pair (.int .u8) (.pair (.int .i32) (.pair (.int .i64) (.pair (.int .i64) .unit)))] (fun x => F53 n ) (entIo 54 [.pair (.int .u8) (.pair (.int .i32) (.pair (.int .i64) (.pair (.int .i64) .unit))), .int .u8] [.pair (.int .u8) (.pair (.int .i32) (.pair (.int .i64) (.pair (.int .i64) .unit))), .int .i32, .int .i64] (fun x => F54 n x.1 x.2) (ent 55 [.ref (.pair (.int .u8) (.pair (.int .i32) (.pair (.int .i64) (.pair (.int .i64) .unit))))] [.int .i64] (fun x => F55 n x) (noFns)))

theorem GO35 (n : Nat) : CtxOK Tryd.prog lay35 (G35 n) := ent_okIo (ps := []) (rss := [.box (.pair (.val (.int .u8)) (.pair (.val (.int .i32)) (.pair (.val (.int .i64)) (.pair (.val (.int .i64)) .unit))))]) (T53 n) (fun _ _ h => h) (ent_okIo (ps := [.box (.pair (.val (.int .u8)) (.pair (.val (.int .i32)) (.pair (.val (.int .i64)) (.pair (.val (.int .i64)) .unit)))), .val (.int .u8)]) (rss := [.val (.int .i32), .val (.int .i64)]) (T54 n) (fun _ _ h => h) (ent_ok (T55 n) (fun _ _ h => h) (noFns_ok)))

noncomputable def P35 (n : Nat) : Pl (Res [.slice (.int .i32), .int .i64, .bool]) :=
  (.two .leaf (.two .leaf (.two .leaf (.two (.two .leaf (.one (.loop [.val (.tmp 0) (.slice (.int .u8)), .ptr (.tmp 5) 5000110 0, .vec (.tmp 6) 20000000 21 (.int .i32), .val (.tmp 15) (.slice (.int .u8)), .val (.tmp 16) (.int .i64), .val (.tmp 17) (.int .i64), .val (.cell 5000110 0) (.int .u8), .val (.cell 5000110 1) (.int .i32), .val (.cell 5000110 2) (.int .i64), .val (.cell 5000110 3) (.int .i64), .box 5000110 4] n (fun m x => F35l0 n m x.1 x.2.2.1 x.2.2.2.1 x.2.2.2.2.1 x.2.2.2.2.2.1 x.2.2.2.2.2.2.1 x.2.2.2.2.2.2.2.1 x.2.2.2.2.2.2.2.2.1 x.2.2.2.2.2.2.2.2.2.1) (fun _ => .leaf)))) .leaf))))

theorem K35 (n : Nat) : PlOK (G35 n) noInl lay35 47 (P35 n) c35 (fnK lay35 [.tmp 2, .tmp 3, .tmp 4] [.val (.slice (.int .u8))] [.val (.slice (.int .i32)), .val (.int .i64), .val .bool] [.slice (.int .i32), .int .i64, .bool]) :=
  ⟨trivial, ⟨trivial, ⟨trivial, ⟨⟨trivial, ⟨by kernel_rfl, fun x => by kernel_rfl, fun m => ⟨fun x => by kernel_rfl, trivial⟩⟩⟩, trivial⟩⟩⟩⟩

theorem E35 (n : Nat) (a0 : List Int) : F35 n a0 = fnE [.val (.slice (.int .u8))] (argDs [.slice (.int .u8)] (a0)) (fun st => ev (G35 n) noInl lay35 47 c35 (P35 n) st (fnK lay35 [.tmp 2, .tmp 3, .tmp 4] [.val (.slice (.int .u8))] [.val (.slice (.int .i32)), .val (.int .i64), .val .bool] [.slice (.int .i32), .int .i64, .bool])) := by kernel_rfl

theorem T35 (n : Nat) : Told Tryd.prog 35 [.slice (.int .u8)] [.slice (.int .i32), .int .i64, .bool] (fun x => F35 n x) := by
  rintro a0 r h
  exact calls_plain (fn_sound lay35_ok mixed (rvs := [.tmp 2, .tmp 3, .tmp 4]) (by kernel_rfl : Tryd.prog.funcs[35]? = some Tryd.f35) (by kernel_rfl : Tryd.f35.body = some c35) (by kernel_rfl) (by kernel_rfl) (by kernel_rfl) (GO35 n) noInl_ok (K35 n) ((E35 n a0).symm.trans h)) rfl rfl rfl rfl

/-! ### orthoepy/orthoepyref02.long -/

def F73 (n : Nat) (a0 : Int) : Option (Int) :=
  (bif (decide (a0 < 128)) then
    some 1
  else
    (bif (decide (a0 ≥ 194)) then
      (bif (decide (a0 ≤ 223)) then
        some 2
      else
        (bif (decide (a0 ≥ 224)) then
          (bif (decide (a0 ≤ 239)) then
            some 3
          else
            (bif (decide (a0 ≥ 240)) then
              (bif (decide (a0 ≤ 244)) then
                some 4
              else
                some 0)
            else
              some 0))
        else
          (bif (decide (a0 ≥ 240)) then
            (bif (decide (a0 ≤ 244)) then
              some 4
            else
              some 0)
          else
            some 0)))
    else
      (bif (decide (a0 ≥ 224)) then
        (bif (decide (a0 ≤ 239)) then
          some 3
        else
          (bif (decide (a0 ≥ 240)) then
            (bif (decide (a0 ≤ 244)) then
              some 4
            else
              some 0)
          else
            some 0))
      else
        (bif (decide (a0 ≥ 240)) then
          (bif (decide (a0 ≤ 244)) then
            some 4
          else
            some 0)
        else
          some 0))))

noncomputable def c73 : Code := Tryd.f73.body.getD .skip

noncomputable def G73 (n : Nat) : Ctx (Res [.int .i64]) := noFns

theorem GO73 (n : Nat) : CtxOK Tryd.prog lay0 (G73 n) := noFns_ok

noncomputable def P73 (n : Nat) : Pl (Res [.int .i64]) :=
  .leaf

theorem K73 (n : Nat) : PlOK (G73 n) noInl lay0 27 (P73 n) c73 (fnK lay0 [.tmp 2] [.val (.int .u8)] [.val (.int .i64)] [.int .i64]) :=
  trivial

theorem E73 (n : Nat) (a0 : Int) : F73 n a0 = fnE [.val (.int .u8)] (argDs [.int .u8] (a0)) (fun st => ev (G73 n) noInl lay0 27 c73 (P73 n) st (fnK lay0 [.tmp 2] [.val (.int .u8)] [.val (.int .i64)] [.int .i64])) := by kernel_rfl

theorem T73 (n : Nat) : Told Tryd.prog 73 [.int .u8] [.int .i64] (fun x => F73 n x) := by
  rintro a0 r h
  exact calls_plain (fn_sound lay0_ok mixed (rvs := [.tmp 2]) (by kernel_rfl : Tryd.prog.funcs[73]? = some Tryd.f73) (by kernel_rfl : Tryd.f73.body = some c73) (by kernel_rfl) (by kernel_rfl) (by kernel_rfl) (GO73 n) noInl_ok (K73 n) ((E73 n a0).symm.trans h)) rfl rfl rfl rfl

/-! ### orthoepy/orthoepyref02.second -/

def F74 (n : Nat) (a0 : Int) (a1 : Int) : Option (Bool) :=
  (bif (a0 == 224) then
    (bif (decide (a1 ≥ 160)) then
      some (decide (a1 ≤ 191))
    else
      some false)
  else
    (bif (a0 == 237) then
      (bif (decide (a1 ≥ 128)) then
        some (decide (a1 ≤ 159))
      else
        some false)
    else
      (bif (a0 == 240) then
        (bif (decide (a1 ≥ 144)) then
          some (decide (a1 ≤ 191))
        else
          some false)
      else
        (bif (a0 == 244) then
          (bif (decide (a1 ≥ 128)) then
            some (decide (a1 ≤ 143))
          else
            some false)
        else
          (bif (decide (a1 ≥ 128)) then
            some (decide (a1 ≤ 191))
          else
            some false)))))

noncomputable def c74 : Code := Tryd.f74.body.getD .skip

noncomputable def G74 (n : Nat) : Ctx (Res [.bool]) := noFns

theorem GO74 (n : Nat) : CtxOK Tryd.prog lay0 (G74 n) := noFns_ok

noncomputable def P74 (n : Nat) : Pl (Res [.bool]) :=
  .leaf

theorem K74 (n : Nat) : PlOK (G74 n) noInl lay0 44 (P74 n) c74 (fnK lay0 [.tmp 4] [.val (.int .u8), .val (.int .u8)] [.val .bool] [.bool]) :=
  trivial

theorem E74 (n : Nat) (a0 : Int) (a1 : Int) : F74 n a0 a1 = fnE [.val (.int .u8), .val (.int .u8)] (argDs [.int .u8, .int .u8] (a0, a1)) (fun st => ev (G74 n) noInl lay0 44 c74 (P74 n) st (fnK lay0 [.tmp 4] [.val (.int .u8), .val (.int .u8)] [.val .bool] [.bool])) := by kernel_rfl

theorem T74 (n : Nat) : Told Tryd.prog 74 [.int .u8, .int .u8] [.bool] (fun x => F74 n x.1 x.2) := by
  rintro ⟨a0, a1⟩ r h
  exact calls_plain (fn_sound lay0_ok mixed (rvs := [.tmp 4]) (by kernel_rfl : Tryd.prog.funcs[74]? = some Tryd.f74) (by kernel_rfl : Tryd.f74.body = some c74) (by kernel_rfl) (by kernel_rfl) (by kernel_rfl) (GO74 n) noInl_ok (K74 n) ((E74 n a0 a1).symm.trans h)) rfl rfl rfl rfl

/-! ### orthoepy/orthoepyref02.How -/

def F58l0F (n : Nat) (rF58l0 : List Int → Int → Int → Option (Int)) (t0 : List Int) (t3 : Int) (t4 : Int) : Option (Int) :=
  (bif (decide (t4 < ((t0).length : Int))) then
    (bif (t4 == 1) then
      (bif inB 0 (t0).length then
      (bif inB 1 (t0).length then
      (match F74 n ((t0).getD (Int.toNat 0) (Ty.dflt (.int .u8))) ((t0).getD (Int.toNat 1) (Ty.dflt (.int .u8))) with
      | some r2 =>
      (bif (!r2) then
        some 0
      else
        (bif inB t4 (t0).length then
        (bif (decide (((t0).getD (Int.toNat t4) (Ty.dflt (.int .u8))) < 128)) then
          some 0
        else
          (bif inB t4 (t0).length then
          (bif (decide (((t0).getD (Int.toNat t4) (Ty.dflt (.int .u8))) > 191)) then
            some 0
          else
            rF58l0 t0 t3 (IntKind.wrap .i64 (t4 + 1)))
          else none))
        else none))
      | none => none)
      else none)
      else none)
    else
      (bif inB t4 (t0).length then
      (bif (decide (((t0).getD (Int.toNat t4) (Ty.dflt (.int .u8))) < 128)) then
        some 0
      else
        (bif inB t4 (t0).length then
        (bif (decide (((t0).getD (Int.toNat t4) (Ty.dflt (.int .u8))) > 191)) then
          some 0
        else
          rF58l0 t0 t3 (IntKind.wrap .i64 (t4 + 1)))
        else none))
      else none))
  else
    (bif (t3 == ((t0).length : Int)) then
      some 2
    else
      some 1))
def F58l0 (n : Nat) : Nat → List Int → Int → Int → Option (Int)
  | 0, _, _, _ => none
  | m + 1, t0, t3, t4 => F58l0F n (F58l0 n m) t0 t3 t4

def F58 (n : Nat) (a0 : List Int) : Option (Int) :=
  (bif (((a0).length : Int) == 0) then
    some 0
  else
    (bif (decide (((a0).length : Int) > 4)) then
      some 0
    else
      (bif inB 0 (a0).length then
      (match F73 n ((a0).getD (Int.toNat 0) (Ty.dflt (.int .u8))) with
      | some r1 =>
      (bif (decide (r1 < ((a0).length : Int))) then
        some 0
      else
        F58l0 n n a0 r1 1)
      | none => none)
      else none)))

noncomputable def c58 : Code := Tryd.f58.body.getD .skip

noncomputable def G58 (n : Nat) : Ctx (Res [.int .i64]) := ent 73 [.int .u8] [.int .i64] (fun x => F73 n x) (ent 74 [.int .u8, .int .u8] [.bool] (fun x => F74 n x.1 x.2) (noFns))

theorem GO58 (n : Nat) : CtxOK Tryd.prog lay0 (G58 n) := ent_ok (T73 n) (fun _ _ h => h) (ent_ok (T74 n) (fun _ _ h => h) (noFns_ok))

noncomputable def P58 (n : Nat) : Pl (Res [.int .i64]) :=
  (.two .leaf (.two .leaf (.two .leaf (.two .leaf (.two (.two .leaf (.one (.loop [.val (.tmp 0) (.slice (.int .u8)), .val (.tmp 3) (.int .i64), .val (.tmp 4) (.int .i64)] n (fun m x => F58l0 n m x.1 x.2.1 x.2.2.1) (fun _ => .leaf)))) .leaf)))))

theorem K58 (n : Nat) : PlOK (G58 n) noInl lay0 57 (P58 n) c58 (fnK lay0 [.tmp 2] [.val (.slice (.int .u8))] [.val (.int .i64)] [.int .i64]) :=
  ⟨trivial, ⟨trivial, ⟨trivial, ⟨trivial, ⟨⟨trivial, ⟨by kernel_rfl, fun x => by kernel_rfl, fun m => ⟨fun x => by kernel_rfl, trivial⟩⟩⟩, trivial⟩⟩⟩⟩⟩

theorem E58 (n : Nat) (a0 : List Int) : F58 n a0 = fnE [.val (.slice (.int .u8))] (argDs [.slice (.int .u8)] (a0)) (fun st => ev (G58 n) noInl lay0 57 c58 (P58 n) st (fnK lay0 [.tmp 2] [.val (.slice (.int .u8))] [.val (.int .i64)] [.int .i64])) := by kernel_rfl

theorem T58 (n : Nat) : Told Tryd.prog 58 [.slice (.int .u8)] [.int .i64] (fun x => F58 n x) := by
  rintro a0 r h
  exact calls_plain (fn_sound lay0_ok mixed (rvs := [.tmp 2]) (by kernel_rfl : Tryd.prog.funcs[58]? = some Tryd.f58) (by kernel_rfl : Tryd.f58.body = some c58) (by kernel_rfl) (by kernel_rfl) (by kernel_rfl) (GO58 n) noInl_ok (K58 n) ((E58 n a0).symm.trans h)) rfl rfl rfl rfl

/-! ### orthoepy/orthoepyref02.of -/

def F59l1F (n : Nat) (rF59l1 : List Int → Int → Int → Option (Int)) (t0 : List Int) (t3 : Int) (t4 : Int) : Option (Int) :=
  (bif (decide (t4 < ((t0).length : Int))) then
    (bif inB t4 (t0).length then
    rF59l1 t0 (IntKind.wrap .i32 ((IntKind.wrap .i32 ((IntKind.wrap .i32 (t3 * 64)) + (IntKind.wrap .i32 (((t0).getD (Int.toNat t4) (Ty.dflt (.int .u8))))))) - 128)) (IntKind.wrap .i64 (t4 + 1))
    else none)
  else
    some t3)
def F59l1 (n : Nat) : Nat → List Int → Int → Int → Option (Int)
  | 0, _, _, _ => none
  | m + 1, t0, t3, t4 => F59l1F n (F59l1 n m) t0 t3 t4

def F59j0 (n : Nat) (t0 : List Int) (t3 : Int) : Option (Int) :=
  F59l1 n n t0 t3 1

def F59 (n : Nat) (a0 : List Int) : Option (Int) :=
  (bif inB 0 (a0).length then
  (bif (((a0).length : Int) == 2) then
    F59j0 n a0 (IntKind.wrap .i32 ((IntKind.wrap .i32 (((a0).getD (Int.toNat 0) (Ty.dflt (.int .u8))))) - 192))
  else
    (bif (((a0).length : Int) == 3) then
      F59j0 n a0 (IntKind.wrap .i32 ((IntKind.wrap .i32 (((a0).getD (Int.toNat 0) (Ty.dflt (.int .u8))))) - 224))
    else
      (bif (((a0).length : Int) == 4) then
        F59j0 n a0 (IntKind.wrap .i32 ((IntKind.wrap .i32 (((a0).getD (Int.toNat 0) (Ty.dflt (.int .u8))))) - 240))
      else
        F59j0 n a0 (IntKind.wrap .i32 (((a0).getD (Int.toNat 0) (Ty.dflt (.int .u8))))))))
  else none)

noncomputable def c59 : Code := Tryd.f59.body.getD .skip

noncomputable def G59 (n : Nat) : Ctx (Res [.int .i32]) := noFns

theorem GO59 (n : Nat) : CtxOK Tryd.prog lay0 (G59 n) := noFns_ok

noncomputable def P59 (n : Nat) : Pl (Res [.int .i32]) :=
  (.two .leaf (.two .leaf (.join [.val (.tmp 0) (.slice (.int .u8)), .val (.tmp 3) (.int .i32)] (fun x => F59j0 n x.1 x.2.1) .leaf (.two (.two .leaf (.one (.loop [.val (.tmp 0) (.slice (.int .u8)), .val (.tmp 3) (.int .i32), .val (.tmp 4) (.int .i64)] n (fun m x => F59l1 n m x.1 x.2.1 x.2.2.1) (fun _ => .leaf)))) .leaf))))

theorem K59 (n : Nat) : PlOK (G59 n) noInl lay0 39 (P59 n) c59 (fnK lay0 [.tmp 2] [.val (.slice (.int .u8))] [.val (.int .i32)] [.int .i32]) :=
  ⟨trivial, ⟨trivial, ⟨by kernel_rfl, fun x => by kernel_rfl, trivial, ⟨⟨trivial, ⟨by kernel_rfl, fun x => by kernel_rfl, fun m => ⟨fun x => by kernel_rfl, trivial⟩⟩⟩, trivial⟩⟩⟩⟩

theorem E59 (n : Nat) (a0 : List Int) : F59 n a0 = fnE [.val (.slice (.int .u8))] (argDs [.slice (.int .u8)] (a0)) (fun st => ev (G59 n) noInl lay0 39 c59 (P59 n) st (fnK lay0 [.tmp 2] [.val (.slice (.int .u8))] [.val (.int .i32)] [.int .i32])) := by kernel_rfl

theorem T59 (n : Nat) : Told Tryd.prog 59 [.slice (.int .u8)] [.int .i32] (fun x => F59 n x) := by
  rintro a0 r h
  exact calls_plain (fn_sound lay0_ok mixed (rvs := [.tmp 2]) (by kernel_rfl : Tryd.prog.funcs[59]? = some Tryd.f59) (by kernel_rfl : Tryd.f59.body = some c59) (by kernel_rfl) (by kernel_rfl) (by kernel_rfl) (GO59 n) noInl_ok (K59 n) ((E59 n a0).symm.trans h)) rfl rfl rfl rfl

/-! ### orthoepy/orthoepyref02.First -/

def F40j0 (n : Nat) (t0 : List Int) (t5 : Int) : Option (Int × Int × Bool) :=
  (bif (decide (t5 < ((t0).length : Int))) then
    (bif (cutB 0 (IntKind.wrap .i64 (t5 + 1)) (t0).length && true) then
    (match F58 n (((t0).drop (Int.toNat 0)).take (Int.toNat (IntKind.wrap .i64 (t5 + 1)) - Int.toNat 0)) with
    | some r2 =>
    (bif (r2 == 2) then
      (bif (cutB 0 (IntKind.wrap .i64 (t5 + 1)) (t0).length && true) then
      (match F59 n (((t0).drop (Int.toNat 0)).take (Int.toNat (IntKind.wrap .i64 (t5 + 1)) - Int.toNat 0)) with
      | some r3 =>
      some (r3, (IntKind.wrap .i64 (t5 + 1)), true)
      | none => none)
      else none)
    else
      some (0, t5, false))
    | none => none)
    else none)
  else
    some (0, t5, false))

def F40l1F (n : Nat) (rF40l1 : List Int → Int → Option (Int × Int × Bool)) (t0 : List Int) (t5 : Int) : Option (Int × Int × Bool) :=
  (bif (decide (t5 < ((t0).length : Int))) then
    (bif (cutB 0 (IntKind.wrap .i64 (t5 + 1)) (t0).length && true) then
    (match F58 n (((t0).drop (Int.toNat 0)).take (Int.toNat (IntKind.wrap .i64 (t5 + 1)) - Int.toNat 0)) with
    | some r1 =>
    (bif (r1 == 1) then
      rF40l1 t0 (IntKind.wrap .i64 (t5 + 1))
    else
      F40j0 n t0 t5)
    | none => none)
    else none)
  else
    F40j0 n t0 t5)
def F40l1 (n : Nat) : Nat → List Int → Int → Option (Int × Int × Bool)
  | 0, _, _ => none
  | m + 1, t0, t5 => F40l1F n (F40l1 n m) t0 t5

def F40 (n : Nat) (a0 : List Int) : Option (Int × Int × Bool) :=
  F40l1 n n a0 0

noncomputable def c40 : Code := Tryd.f40.body.getD .skip

noncomputable def G40 (n : Nat) : Ctx (Res [.int .i32, .int .i64, .bool]) := ent 58 [.slice (.int .u8)] [.int .i64] (fun x => F58 n x) (ent 59 [.slice (.int .u8)] [.int .i32] (fun x => F59 n x) (noFns))

theorem GO40 (n : Nat) : CtxOK Tryd.prog lay0 (G40 n) := ent_ok (T58 n) (fun _ _ h => h) (ent_ok (T59 n) (fun _ _ h => h) (noFns_ok))

noncomputable def P40 (n : Nat) : Pl (Res [.int .i32, .int .i64, .bool]) :=
  (.two .leaf (.two .leaf (.join [.val (.tmp 0) (.slice (.int .u8)), .val (.tmp 5) (.int .i64)] (fun x => F40j0 n x.1 x.2.1) (.one (.loop [.val (.tmp 0) (.slice (.int .u8)), .val (.tmp 5) (.int .i64)] n (fun m x => F40l1 n m x.1 x.2.1) (fun _ => .leaf))) .leaf)))

theorem K40 (n : Nat) : PlOK (G40 n) noInl lay0 40 (P40 n) c40 (fnK lay0 [.tmp 2, .tmp 3, .tmp 4] [.val (.slice (.int .u8))] [.val (.int .i32), .val (.int .i64), .val .bool] [.int .i32, .int .i64, .bool]) :=
  ⟨trivial, ⟨trivial, ⟨by kernel_rfl, fun x => by kernel_rfl, ⟨by kernel_rfl, fun x => by kernel_rfl, fun m => ⟨fun x => by kernel_rfl, trivial⟩⟩, trivial⟩⟩⟩

theorem E40 (n : Nat) (a0 : List Int) : F40 n a0 = fnE [.val (.slice (.int .u8))] (argDs [.slice (.int .u8)] (a0)) (fun st => ev (G40 n) noInl lay0 40 c40 (P40 n) st (fnK lay0 [.tmp 2, .tmp 3, .tmp 4] [.val (.slice (.int .u8))] [.val (.int .i32), .val (.int .i64), .val .bool] [.int .i32, .int .i64, .bool])) := by kernel_rfl

theorem T40 (n : Nat) : Told Tryd.prog 40 [.slice (.int .u8)] [.int .i32, .int .i64, .bool] (fun x => F40 n x) := by
  rintro a0 r h
  exact calls_plain (fn_sound lay0_ok mixed (rvs := [.tmp 2, .tmp 3, .tmp 4]) (by kernel_rfl : Tryd.prog.funcs[40]? = some Tryd.f40) (by kernel_rfl : Tryd.f40.body = some c40) (by kernel_rfl) (by kernel_rfl) (by kernel_rfl) (GO40 n) noInl_ok (K40 n) ((E40 n a0).symm.trans h)) rfl rfl rfl rfl

/-! ### orthoepy/orthoepyref02.All -/

def F21l0F (n : Nat) (rF21l0 : List Int → List Int → Int → Option ((List Int) × Int × Bool)) (t0 : List Int) (t5 : List Int) (t6 : Int) : Option ((List Int) × Int × Bool) :=
  (bif (decide (t6 < ((t0).length : Int))) then
    (bif (cutB t6 ((t0).length : Int) (t0).length && true) then
    (match F40 n (((t0).drop (Int.toNat t6)).take (Int.toNat ((t0).length : Int) - Int.toNat t6)) with
    | some r1 =>
    (bif (!r1.2.2) then
      some (([] : List Int), (IntKind.wrap .i64 (t6 + r1.2.1)), false)
    else
      (bif (decide (((t5).length + (([r1.1] : List Int)).length) * 4 ≤ maxRoom) && decide ((t5).length + (([r1.1] : List Int)).length ≤ maxRoom)) then
      rF21l0 t0 (t5 ++ ([r1.1] : List Int)) (IntKind.wrap .i64 (t6 + r1.2.1))
      else none))
    | none => none)
    else none)
  else
    some (t5, t6, true))
def F21l0 (n : Nat) : Nat → List Int → List Int → Int → Option ((List Int) × Int × Bool)
  | 0, _, _, _ => none
  | m + 1, t0, t5, t6 => F21l0F n (F21l0 n m) t0 t5 t6

def F21 (n : Nat) (a0 : List Int) : Option ((List Int) × Int × Bool) :=
  F21l0 n n a0 ([] : List Int) 0

noncomputable def c21 : Code := Tryd.f21.body.getD .skip

noncomputable def G21 (n : Nat) : Ctx (Res [.slice (.int .i32), .int .i64, .bool]) := ent 40 [.slice (.int .u8)] [.int .i32, .int .i64, .bool] (fun x => F40 n x) (noFns)

theorem GO21 (n : Nat) : CtxOK Tryd.prog lay0 (G21 n) := ent_ok (T40 n) (fun _ _ h => h) (noFns_ok)

noncomputable def P21 (n : Nat) : Pl (Res [.slice (.int .i32), .int .i64, .bool]) :=
  (.two .leaf (.two .leaf (.two .leaf (.two (.one (.loop [.val (.tmp 0) (.slice (.int .u8)), .vec (.tmp 5) 20000000 21 (.int .i32), .val (.tmp 6) (.int .i64)] n (fun m x => F21l0 n m x.1 x.2.1 x.2.2.1) (fun _ => .leaf))) .leaf))))

theorem K21 (n : Nat) : PlOK (G21 n) noInl lay0 36 (P21 n) c21 (fnK lay0 [.tmp 2, .tmp 3, .tmp 4] [.val (.slice (.int .u8))] [.val (.slice (.int .i32)), .val (.int .i64), .val .bool] [.slice (.int .i32), .int .i64, .bool]) :=
  ⟨trivial, ⟨trivial, ⟨trivial, ⟨⟨by kernel_rfl, fun x => by kernel_rfl, fun m => ⟨fun x => by kernel_rfl, trivial⟩⟩, trivial⟩⟩⟩⟩

theorem E21 (n : Nat) (a0 : List Int) : F21 n a0 = fnE [.val (.slice (.int .u8))] (argDs [.slice (.int .u8)] (a0)) (fun st => ev (G21 n) noInl lay0 36 c21 (P21 n) st (fnK lay0 [.tmp 2, .tmp 3, .tmp 4] [.val (.slice (.int .u8))] [.val (.slice (.int .i32)), .val (.int .i64), .val .bool] [.slice (.int .i32), .int .i64, .bool])) := by kernel_rfl

theorem T21 (n : Nat) : Told Tryd.prog 21 [.slice (.int .u8)] [.slice (.int .i32), .int .i64, .bool] (fun x => F21 n x) := by
  rintro a0 r h
  exact calls_plain (fn_sound lay0_ok mixed (rvs := [.tmp 2, .tmp 3, .tmp 4]) (by kernel_rfl : Tryd.prog.funcs[21]? = some Tryd.f21) (by kernel_rfl : Tryd.f21.body = some c21) (by kernel_rfl) (by kernel_rfl) (by kernel_rfl) (GO21 n) noInl_ok (K21 n) ((E21 n a0).symm.trans h)) rfl rfl rfl rfl

/-! ### orthoepy/orthoepyref22.Right -/

def F20 (n : Nat) (a0 : List UInt8) : Option (Bool) :=
  (match F21 n (bytesOf a0) with
  | some r1 =>
  some r1.2.2
  | none => none)

noncomputable def c20 : Code := Tryd.f20.body.getD .skip

noncomputable def G20 (n : Nat) : Ctx (Res [.bool]) := ent 21 [.slice (.int .u8)] [.slice (.int .i32), .int .i64, .bool] (fun x => F21 n x) (noFns)

theorem GO20 (n : Nat) : CtxOK Tryd.prog lay0 (G20 n) := ent_ok (T21 n) (fun _ _ h => h) (noFns_ok)

noncomputable def P20 (n : Nat) : Pl (Res [.bool]) :=
  .leaf

theorem K20 (n : Nat) : PlOK (G20 n) noInl lay0 14 (P20 n) c20 (fnK lay0 [.tmp 2] [.val .str] [.val .bool] [.bool]) :=
  trivial

theorem E20 (n : Nat) (a0 : List UInt8) : F20 n a0 = fnE [.val .str] (argDs [.str] (a0)) (fun st => ev (G20 n) noInl lay0 14 c20 (P20 n) st (fnK lay0 [.tmp 2] [.val .str] [.val .bool] [.bool])) := by kernel_rfl

theorem T20 (n : Nat) : Told Tryd.prog 20 [.str] [.bool] (fun x => F20 n x) := by
  rintro a0 r h
  exact calls_plain (fn_sound lay0_ok mixed (rvs := [.tmp 2]) (by kernel_rfl : Tryd.prog.funcs[20]? = some Tryd.f20) (by kernel_rfl : Tryd.f20.body = some c20) (by kernel_rfl) (by kernel_rfl) (by kernel_rfl) (GO20 n) noInl_ok (K20 n) ((E20 n a0).symm.trans h)) rfl rfl rfl rfl

/-! ### orthoepy/orthoepylaw25.begins -/

def F22 (n : Nat) (a0 : List Int) : Option (Bool) :=
  (match F21 n a0 with
  | some r1 =>
  some (r1.2.1 == ((a0).length : Int))
  | none => none)

noncomputable def c22 : Code := Tryd.f22.body.getD .skip

noncomputable def G22 (n : Nat) : Ctx (Res [.bool]) := ent 21 [.slice (.int .u8)] [.slice (.int .i32), .int .i64, .bool] (fun x => F21 n x) (noFns)

theorem GO22 (n : Nat) : CtxOK Tryd.prog lay0 (G22 n) := ent_ok (T21 n) (fun _ _ h => h) (noFns_ok)

noncomputable def P22 (n : Nat) : Pl (Res [.bool]) :=
  .leaf

theorem K22 (n : Nat) : PlOK (G22 n) noInl lay0 16 (P22 n) c22 (fnK lay0 [.tmp 2] [.val (.slice (.int .u8))] [.val .bool] [.bool]) :=
  trivial

theorem E22 (n : Nat) (a0 : List Int) : F22 n a0 = fnE [.val (.slice (.int .u8))] (argDs [.slice (.int .u8)] (a0)) (fun st => ev (G22 n) noInl lay0 16 c22 (P22 n) st (fnK lay0 [.tmp 2] [.val (.slice (.int .u8))] [.val .bool] [.bool])) := by kernel_rfl

theorem T22 (n : Nat) : Told Tryd.prog 22 [.slice (.int .u8)] [.bool] (fun x => F22 n x) := by
  rintro a0 r h
  exact calls_plain (fn_sound lay0_ok mixed (rvs := [.tmp 2]) (by kernel_rfl : Tryd.prog.funcs[22]? = some Tryd.f22) (by kernel_rfl : Tryd.f22.body = some c22) (by kernel_rfl) (by kernel_rfl) (by kernel_rfl) (GO22 n) noInl_ok (K22 n) ((E22 n a0).symm.trans h)) rfl rfl rfl rfl

/-! ### orthoepy/orthoepyref10.Print -/

def F23B (self : Int → Option ((List UInt8))) (n : Nat) (a0 : Int) : Option ((List UInt8)) :=
  (bif (decide (a0 ≤ (-10))) then
    (bif (!(10 == 0)) then
    (bif (!(10 == 0)) then
    (match self (IntKind.wrap .i64 (Int.tdiv a0 10)) with
    | some r1 =>
    (bif cutB (IntKind.wrap .i64 (0 - (Int.tmod a0 10))) (IntKind.wrap .i64 ((IntKind.wrap .i64 (0 - (Int.tmod a0 10))) + 1)) (([48, 49, 50, 51, 52, 53, 54, 55, 56, 57] : List UInt8)).length then
    (bif decide (r1.length + (((([48, 49, 50, 51, 52, 53, 54, 55, 56, 57] : List UInt8)).drop (Int.toNat (IntKind.wrap .i64 (0 - (Int.tmod a0 10))))).take (Int.toNat (IntKind.wrap .i64 ((IntKind.wrap .i64 (0 - (Int.tmod a0 10))) + 1)) - Int.toNat (IntKind.wrap .i64 (0 - (Int.tmod a0 10))))).length ≤ 9223372036854775807) then
    some (r1 ++ (((([48, 49, 50, 51, 52, 53, 54, 55, 56, 57] : List UInt8)).drop (Int.toNat (IntKind.wrap .i64 (0 - (Int.tmod a0 10))))).take (Int.toNat (IntKind.wrap .i64 ((IntKind.wrap .i64 (0 - (Int.tmod a0 10))) + 1)) - Int.toNat (IntKind.wrap .i64 (0 - (Int.tmod a0 10))))))
    else none)
    else none)
    | none => none)
    else none)
    else none)
  else
    (bif (decide (a0 < 0)) then
      (bif cutB (IntKind.wrap .i64 (0 - a0)) (IntKind.wrap .i64 ((IntKind.wrap .i64 (0 - a0)) + 1)) (([48, 49, 50, 51, 52, 53, 54, 55, 56, 57] : List UInt8)).length then
      (bif decide (([45] : List UInt8).length + (((([48, 49, 50, 51, 52, 53, 54, 55, 56, 57] : List UInt8)).drop (Int.toNat (IntKind.wrap .i64 (0 - a0)))).take (Int.toNat (IntKind.wrap .i64 ((IntKind.wrap .i64 (0 - a0)) + 1)) - Int.toNat (IntKind.wrap .i64 (0 - a0)))).length ≤ 9223372036854775807) then
      some (([45] : List UInt8) ++ (((([48, 49, 50, 51, 52, 53, 54, 55, 56, 57] : List UInt8)).drop (Int.toNat (IntKind.wrap .i64 (0 - a0)))).take (Int.toNat (IntKind.wrap .i64 ((IntKind.wrap .i64 (0 - a0)) + 1)) - Int.toNat (IntKind.wrap .i64 (0 - a0)))))
      else none)
      else none)
    else
      (bif (decide (a0 < 10)) then
        (bif cutB a0 (IntKind.wrap .i64 (a0 + 1)) (([48, 49, 50, 51, 52, 53, 54, 55, 56, 57] : List UInt8)).length then
        some (((([48, 49, 50, 51, 52, 53, 54, 55, 56, 57] : List UInt8)).drop (Int.toNat a0)).take (Int.toNat (IntKind.wrap .i64 (a0 + 1)) - Int.toNat a0))
        else none)
      else
        (bif (!(10 == 0)) then
        (match self (IntKind.wrap .i64 (Int.tdiv a0 10)) with
        | some r2 =>
        (bif (!(10 == 0)) then
        (bif (!(10 == 0)) then
        (bif cutB (Int.tmod a0 10) (IntKind.wrap .i64 ((Int.tmod a0 10) + 1)) (([48, 49, 50, 51, 52, 53, 54, 55, 56, 57] : List UInt8)).length then
        (bif decide (r2.length + (((([48, 49, 50, 51, 52, 53, 54, 55, 56, 57] : List UInt8)).drop (Int.toNat (Int.tmod a0 10))).take (Int.toNat (IntKind.wrap .i64 ((Int.tmod a0 10) + 1)) - Int.toNat (Int.tmod a0 10))).length ≤ 9223372036854775807) then
        some (r2 ++ (((([48, 49, 50, 51, 52, 53, 54, 55, 56, 57] : List UInt8)).drop (Int.toNat (Int.tmod a0 10))).take (Int.toNat (IntKind.wrap .i64 ((Int.tmod a0 10) + 1)) - Int.toNat (Int.tmod a0 10))))
        else none)
        else none)
        else none)
        else none)
        | none => none)
        else none))))

def F23 : Nat → Int → Option ((List UInt8))
  | 0, _ => none
  | n + 1, a0 => F23B (F23 n) n a0

noncomputable def c23 : Code := Tryd.f23.body.getD .skip

noncomputable def G23 (self : Int → Option ((List UInt8))) (n : Nat) : Ctx (Res [.str]) := ent 23 [.int .i64] [.str] (fun x => self x) (noFns)

theorem GO23 (self : Int → Option ((List UInt8))) (hs : Told Tryd.prog 23 [.int .i64] [.str] (fun x => self x)) (n : Nat) : CtxOK Tryd.prog lay0 (G23 self n) := ent_ok hs (fun _ _ h => h) (noFns_ok)

noncomputable def P23 (self : Int → Option ((List UInt8))) (n : Nat) : Pl (Res [.str]) :=
  .leaf

theorem K23 (self : Int → Option ((List UInt8))) (n : Nat) : PlOK (G23 self n) noInl lay0 45 (P23 self n) c23 (fnK lay0 [.tmp 2] [.val (.int .i64)] [.val .str] [.str]) :=
  trivial

theorem E23 (self : Int → Option ((List UInt8))) (n : Nat) (a0 : Int) : F23B self n a0 = fnE [.val (.int .i64)] (argDs [.int .i64] (a0)) (fun st => ev (G23 self n) noInl lay0 45 c23 (P23 self n) st (fnK lay0 [.tmp 2] [.val (.int .i64)] [.val .str] [.str])) := by kernel_rfl

theorem TB23 (self : Int → Option ((List UInt8))) (hs : Told Tryd.prog 23 [.int .i64] [.str] (fun x => self x)) (n : Nat) : Told Tryd.prog 23 [.int .i64] [.str] (fun x => F23B self n x) := by
  rintro a0 r h
  exact calls_plain (fn_sound lay0_ok mixed (rvs := [.tmp 2]) (by kernel_rfl : Tryd.prog.funcs[23]? = some Tryd.f23) (by kernel_rfl : Tryd.f23.body = some c23) (by kernel_rfl) (by kernel_rfl) (by kernel_rfl) (GO23 self hs n) noInl_ok (K23 self n) ((E23 self n a0).symm.trans h)) rfl rfl rfl rfl

theorem T23 : ∀ n : Nat, Told Tryd.prog 23 [.int .i64] [.str] (fun x => F23 n x)
  | 0 => fun _ _ h => by cases h
  | n + 1 => TB23 (F23 n) (T23 n) n

/-! ### orthoepy/orthoepyref25.Parse -/

def F14j2 (n : Nat) (rF14l0 : List UInt8 → Int → Bool → List (List UInt8) → Int → Option ((List (List UInt8)) × Int × Bool)) (t0 : List UInt8) (t6 : Int) (t7 : Bool) (t8 : List (List UInt8)) (t9 : Int) (t10 : Int) (t88 : Bool) : Option ((List (List UInt8)) × Int × Bool) :=
  (bif t88 then
    (bif inB (IntKind.wrap .i64 (((t8).length : Int) - 1)) (t8).length then
    (bif decide (((t8).getD (Int.toNat (IntKind.wrap .i64 (((t8).length : Int) - 1))) (Ty.dflt .str)).length + ([126] : List UInt8).length ≤ 9223372036854775807) then
    (bif inB (IntKind.wrap .i64 (((t8).length : Int) - 1)) (t8).length then
    rF14l0 t0 t6 t7 ((t8).set (Int.toNat (IntKind.wrap .i64 (((t8).length : Int) - 1))) (((t8).getD (Int.toNat (IntKind.wrap .i64 (((t8).length : Int) - 1))) (Ty.dflt .str)) ++ ([126] : List UInt8))) (IntKind.wrap .i64 ((IntKind.wrap .i64 (t9 + 1)) + 1))
    else none)
    else none)
    else none)
  else
    (bif (t10 == 126) then
      (bif inB (IntKind.wrap .i64 (((t8).length : Int) - 1)) (t8).length then
      (bif decide (((t8).getD (Int.toNat (IntKind.wrap .i64 (((t8).length : Int) - 1))) (Ty.dflt .str)).length + ([47] : List UInt8).length ≤ 9223372036854775807) then
      (bif inB (IntKind.wrap .i64 (((t8).length : Int) - 1)) (t8).length then
      rF14l0 t0 t6 t7 ((t8).set (Int.toNat (IntKind.wrap .i64 (((t8).length : Int) - 1))) (((t8).getD (Int.toNat (IntKind.wrap .i64 (((t8).length : Int) - 1))) (Ty.dflt .str)) ++ ([47] : List UInt8))) (IntKind.wrap .i64 ((IntKind.wrap .i64 (t9 + 1)) + 1))
      else none)
      else none)
      else none)
    else
      (bif inB (IntKind.wrap .i64 (((t8).length : Int) - 1)) (t8).length then
      (bif cutB t9 (IntKind.wrap .i64 (t9 + 1)) (t0).length then
      (bif decide (((t8).getD (Int.toNat (IntKind.wrap .i64 (((t8).length : Int) - 1))) (Ty.dflt .str)).length + (((t0).drop (Int.toNat t9)).take (Int.toNat (IntKind.wrap .i64 (t9 + 1)) - Int.toNat t9)).length ≤ 9223372036854775807) then
      (bif inB (IntKind.wrap .i64 (((t8).length : Int) - 1)) (t8).length then
      rF14l0 t0 t6 t7 ((t8).set (Int.toNat (IntKind.wrap .i64 (((t8).length : Int) - 1))) (((t8).getD (Int.toNat (IntKind.wrap .i64 (((t8).length : Int) - 1))) (Ty.dflt .str)) ++ (((t0).drop (Int.toNat t9)).take (Int.toNat (IntKind.wrap .i64 (t9 + 1)) - Int.toNat t9)))) (IntKind.wrap .i64 (t9 + 1))
      else none)
      else none)
      else none)
      else none)))

def F14j1 (n : Nat) (rF14l0 : List UInt8 → Int → Bool → List (List UInt8) → Int → Option ((List (List UInt8)) × Int × Bool)) (t0 : List UInt8) (t6 : Int) (t7 : Bool) (t8 : List (List UInt8)) (t9 : Int) (t10 : Int) (t56 : Bool) : Option ((List (List UInt8)) × Int × Bool) :=
  (bif t56 then
    (bif t7 then
      some (([] : List (List UInt8)), ((t0).length : Int), false)
    else
      some (([] : List (List UInt8)), t6, false))
  else
    (bif (t10 == 126) then
      (bif inB (IntKind.wrap .i64 (t9 + 1)) (t0).length then
      (bif ((((t0).getD (Int.toNat (IntKind.wrap .i64 (t9 + 1))) 0).toNat : Int) != 48) then
        (bif inB (IntKind.wrap .i64 (t9 + 1)) (t0).length then
        (bif ((((t0).getD (Int.toNat (IntKind.wrap .i64 (t9 + 1))) 0).toNat : Int) != 49) then
          some (([] : List (List UInt8)), (IntKind.wrap .i64 (t9 + 1)), false)
        else
          (bif (t10 == 126) then
            (bif inB (IntKind.wrap .i64 (t9 + 1)) (t0).length then
            F14j2 n rF14l0 t0 t6 t7 t8 t9 t10 ((((t0).getD (Int.toNat (IntKind.wrap .i64 (t9 + 1))) 0).toNat : Int) == 48)
            else none)
          else
            F14j2 n rF14l0 t0 t6 t7 t8 t9 t10 false))
        else none)
      else
        (bif (t10 == 126) then
          (bif inB (IntKind.wrap .i64 (t9 + 1)) (t0).length then
          F14j2 n rF14l0 t0 t6 t7 t8 t9 t10 ((((t0).getD (Int.toNat (IntKind.wrap .i64 (t9 + 1))) 0).toNat : Int) == 48)
          else none)
        else
          F14j2 n rF14l0 t0 t6 t7 t8 t9 t10 false))
      else none)
    else
      (bif (t10 == 126) then
        (bif inB (IntKind.wrap .i64 (t9 + 1)) (t0).length then
        F14j2 n rF14l0 t0 t6 t7 t8 t9 t10 ((((t0).getD (Int.toNat (IntKind.wrap .i64 (t9 + 1))) 0).toNat : Int) == 48)
        else none)
      else
        F14j2 n rF14l0 t0 t6 t7 t8 t9 t10 false)))

def F14l0F (n : Nat) (rF14l0 : List UInt8 → Int → Bool → List (List UInt8) → Int → Option ((List (List UInt8)) × Int × Bool)) (t0 : List UInt8) (t6 : Int) (t7 : Bool) (t8 : List (List UInt8)) (t9 : Int) : Option ((List (List UInt8)) × Int × Bool) :=
  (bif (decide (t9 < t6)) then
    (bif inB t9 (t0).length then
    (bif (t9 == 0) then
      (bif ((((t0).getD (Int.toNat t9) 0).toNat : Int) != 47) then
        some (([] : List (List UInt8)), 0, false)
      else
        (bif ((((t0).getD (Int.toNat t9) 0).toNat : Int) == 47) then
          (bif (decide (((t8).length + (([([] : List UInt8)] : List (List UInt8))).length) * 16 ≤ maxRoom) && decide ((t8).length + (([([] : List UInt8)] : List (List UInt8))).length ≤ maxRoom)) then
          rF14l0 t0 t6 t7 (t8 ++ ([([] : List UInt8)] : List (List UInt8))) (IntKind.wrap .i64 (t9 + 1))
          else none)
        else
          (bif ((((t0).getD (Int.toNat t9) 0).toNat : Int) == 126) then
            F14j1 n rF14l0 t0 t6 t7 t8 t9 (((t0).getD (Int.toNat t9) 0).toNat : Int) ((IntKind.wrap .i64 (t9 + 1)) == t6)
          else
            F14j1 n rF14l0 t0 t6 t7 t8 t9 (((t0).getD (Int.toNat t9) 0).toNat : Int) false)))
    else
      (bif ((((t0).getD (Int.toNat t9) 0).toNat : Int) == 47) then
        (bif (decide (((t8).length + (([([] : List UInt8)] : List (List UInt8))).length) * 16 ≤ maxRoom) && decide ((t8).length + (([([] : List UInt8)] : List (List UInt8))).length ≤ maxRoom)) then
        rF14l0 t0 t6 t7 (t8 ++ ([([] : List UInt8)] : List (List UInt8))) (IntKind.wrap .i64 (t9 + 1))
        else none)
      else
        (bif ((((t0).getD (Int.toNat t9) 0).toNat : Int) == 126) then
          F14j1 n rF14l0 t0 t6 t7 t8 t9 (((t0).getD (Int.toNat t9) 0).toNat : Int) ((IntKind.wrap .i64 (t9 + 1)) == t6)
        else
          F14j1 n rF14l0 t0 t6 t7 t8 t9 (((t0).getD (Int.toNat t9) 0).toNat : Int) false)))
    else none)
  else
    (bif (!t7) then
      some (([] : List (List UInt8)), t6, false)
    else
      some (t8, ((t0).length : Int), true)))
def F14l0 (n : Nat) : Nat → List UInt8 → Int → Bool → List (List UInt8) → Int → Option ((List (List UInt8)) × Int × Bool)
  | 0, _, _, _, _, _ => none
  | m + 1, t0, t6, t7, t8, t9 => F14l0F n (F14l0 n m) t0 t6 t7 t8 t9

def F14 (n : Nat) (a0 : List UInt8) : Option ((List (List UInt8)) × Int × Bool) :=
  (match F21 n (bytesOf a0) with
  | some r1 =>
  F14l0 n n a0 r1.2.1 r1.2.2 ([] : List (List UInt8)) 0
  | none => none)

noncomputable def c14 : Code := Tryd.f14.body.getD .skip

noncomputable def G14 (n : Nat) : Ctx (Res [.slice .str, .int .i64, .bool]) := ent 21 [.slice (.int .u8)] [.slice (.int .i32), .int .i64, .bool] (fun x => F21 n x) (noFns)

theorem GO14 (n : Nat) : CtxOK Tryd.prog lay0 (G14 n) := ent_ok (T21 n) (fun _ _ h => h) (noFns_ok)

noncomputable def P14 (n : Nat) : Pl (Res [.slice .str, .int .i64, .bool]) :=
  (.two .leaf (.two .leaf (.two .leaf (.two (.two .leaf (.one (.loop [.val (.tmp 0) .str, .val (.tmp 6) (.int .i64), .val (.tmp 7) .bool, .vec (.tmp 8) 20000000 9 .str, .val (.tmp 9) (.int .i64)] n (fun m x => F14l0 n m x.1 x.2.1 x.2.2.1 x.2.2.2.1 x.2.2.2.2.1) (fun r => let rF14l0 : List UInt8 → Int → Bool → List (List UInt8) → Int → Option ((List (List UInt8)) × Int × Bool) := (fun y0 y1 y2 y3 y4 => r (y0, y1, y2, y3, y4, ())); (.two .leaf (.two (.one (.two .leaf (.one (.two .leaf (.two .leaf (.two .leaf (.two .leaf (.join [.val (.tmp 0) .str, .val (.tmp 6) (.int .i64), .val (.tmp 7) .bool, .vec (.tmp 8) 20000000 9 .str, .val (.tmp 9) (.int .i64), .val (.tmp 10) (.int .u8), .val (.tmp 56) .bool] (fun x => F14j1 n rF14l0 x.1 x.2.1 x.2.2.1 x.2.2.2.1 x.2.2.2.2.1 x.2.2.2.2.2.1 x.2.2.2.2.2.2.1) .leaf (.two .leaf (.two .leaf (.two .leaf (.join [.val (.tmp 0) .str, .val (.tmp 6) (.int .i64), .val (.tmp 7) .bool, .vec (.tmp 8) 20000000 9 .str, .val (.tmp 9) (.int .i64), .val (.tmp 10) (.int .u8), .val (.tmp 88) .bool] (fun x => F14j2 n rF14l0 x.1 x.2.1 x.2.2.1 x.2.2.2.1 x.2.2.2.2.1 x.2.2.2.2.2.1 x.2.2.2.2.2.2.1) .leaf .leaf)))))))))))) .leaf)))))) .leaf))))

theorem K14 (n : Nat) : PlOK (G14 n) noInl lay0 135 (P14 n) c14 (fnK lay0 [.tmp 2, .tmp 3, .tmp 4] [.val .str] [.val (.slice .str), .val (.int .i64), .val .bool] [.slice .str, .int .i64, .bool]) :=
  ⟨trivial, ⟨trivial, ⟨trivial, ⟨⟨trivial, ⟨by kernel_rfl, fun x => by kernel_rfl, fun m => ⟨fun x => by kernel_rfl, ⟨trivial, ⟨⟨trivial, ⟨trivial, ⟨trivial, ⟨trivial, ⟨trivial, ⟨by kernel_rfl, fun x => by kernel_rfl, trivial, ⟨trivial, ⟨trivial, ⟨trivial, ⟨by kernel_rfl, fun x => by kernel_rfl, trivial, trivial⟩⟩⟩⟩⟩⟩⟩⟩⟩⟩, trivial⟩⟩⟩⟩⟩, trivial⟩⟩⟩⟩

theorem E14 (n : Nat) (a0 : List UInt8) : F14 n a0 = fnE [.val .str] (argDs [.str] (a0)) (fun st => ev (G14 n) noInl lay0 135 c14 (P14 n) st (fnK lay0 [.tmp 2, .tmp 3, .tmp 4] [.val .str] [.val (.slice .str), .val (.int .i64), .val .bool] [.slice .str, .int .i64, .bool])) := by kernel_rfl

theorem T14 (n : Nat) : Told Tryd.prog 14 [.str] [.slice .str, .int .i64, .bool] (fun x => F14 n x) := by
  rintro a0 r h
  exact calls_plain (fn_sound lay0_ok mixed (rvs := [.tmp 2, .tmp 3, .tmp 4]) (by kernel_rfl : Tryd.prog.funcs[14]? = some Tryd.f14) (by kernel_rfl : Tryd.f14.body = some c14) (by kernel_rfl) (by kernel_rfl) (by kernel_rfl) (GO14 n) noInl_ok (K14 n) ((E14 n a0).symm.trans h)) rfl rfl rfl rfl

/-! ### orthoepy/orthoepyref25.Print -/

def F19l1F (n : Nat) (rF19l0 : List (List UInt8) → List UInt8 → Int → Option ((List UInt8))) (rF19l1 : List (List UInt8) → List UInt8 → Int → Int → Option ((List UInt8))) (t0 : List (List UInt8)) (t3 : List UInt8) (t4 : Int) (t5 : Int) : Option ((List UInt8)) :=
  (bif inB t4 (t0).length then
  (bif (decide (t5 < ((((t0).getD (Int.toNat t4) (Ty.dflt .str))).length : Int))) then
    (bif inB t4 (t0).length then
    (bif inB t5 (((t0).getD (Int.toNat t4) (Ty.dflt .str))).length then
    (bif ((((((t0).getD (Int.toNat t4) (Ty.dflt .str))).getD (Int.toNat t5) 0).toNat : Int) == 126) then
      (bif decide (t3.length + ([126, 48] : List UInt8).length ≤ 9223372036854775807) then
      rF19l1 t0 (t3 ++ ([126, 48] : List UInt8)) t4 (IntKind.wrap .i64 (t5 + 1))
      else none)
    else
      (bif ((((((t0).getD (Int.toNat t4) (Ty.dflt .str))).getD (Int.toNat t5) 0).toNat : Int) == 47) then
        (bif decide (t3.length + ([126, 49] : List UInt8).length ≤ 9223372036854775807) then
        rF19l1 t0 (t3 ++ ([126, 49] : List UInt8)) t4 (IntKind.wrap .i64 (t5 + 1))
        else none)
      else
        (bif inB t4 (t0).length then
        (bif cutB t5 (IntKind.wrap .i64 (t5 + 1)) (((t0).getD (Int.toNat t4) (Ty.dflt .str))).length then
        (bif decide (t3.length + (((((t0).getD (Int.toNat t4) (Ty.dflt .str))).drop (Int.toNat t5)).take (Int.toNat (IntKind.wrap .i64 (t5 + 1)) - Int.toNat t5)).length ≤ 9223372036854775807) then
        rF19l1 t0 (t3 ++ (((((t0).getD (Int.toNat t4) (Ty.dflt .str))).drop (Int.toNat t5)).take (Int.toNat (IntKind.wrap .i64 (t5 + 1)) - Int.toNat t5))) t4 (IntKind.wrap .i64 (t5 + 1))
        else none)
        else none)
        else none)))
    else none)
    else none)
  else
    rF19l0 t0 t3 (IntKind.wrap .i64 (t4 + 1)))
  else none)
def F19l1 (n : Nat) (rF19l0 : List (List UInt8) → List UInt8 → Int → Option ((List UInt8))) : Nat → List (List UInt8) → List UInt8 → Int → Int → Option ((List UInt8))
  | 0, _, _, _, _ => none
  | m + 1, t0, t3, t4, t5 => F19l1F n rF19l0 (F19l1 n rF19l0 m) t0 t3 t4 t5

def F19l0F (n : Nat) (rF19l0 : List (List UInt8) → List UInt8 → Int → Option ((List UInt8))) (t0 : List (List UInt8)) (t3 : List UInt8) (t4 : Int) : Option ((List UInt8)) :=
  (bif (decide (t4 < ((t0).length : Int))) then
    (bif decide (t3.length + ([47] : List UInt8).length ≤ 9223372036854775807) then
    F19l1 n rF19l0 n t0 (t3 ++ ([47] : List UInt8)) t4 0
    else none)
  else
    some t3)
def F19l0 (n : Nat) : Nat → List (List UInt8) → List UInt8 → Int → Option ((List UInt8))
  | 0, _, _, _ => none
  | m + 1, t0, t3, t4 => F19l0F n (F19l0 n m) t0 t3 t4

def F19 (n : Nat) (a0 : List (List UInt8)) : Option ((List UInt8)) :=
  F19l0 n n a0 ([] : List UInt8) 0

noncomputable def c19 : Code := Tryd.f19.body.getD .skip

noncomputable def G19 (n : Nat) : Ctx (Res [.str]) := noFns

theorem GO19 (n : Nat) : CtxOK Tryd.prog lay0 (G19 n) := noFns_ok

noncomputable def P19 (n : Nat) : Pl (Res [.str]) :=
  (.two .leaf (.two .leaf (.two (.two .leaf (.one (.loop [.val (.tmp 0) (.slice .str), .val (.tmp 3) .str, .val (.tmp 4) (.int .i64)] n (fun m x => F19l0 n m x.1 x.2.1 x.2.2.1) (fun r => let rF19l0 : List (List UInt8) → List UInt8 → Int → Option ((List UInt8)) := (fun y0 y1 y2 => r (y0, y1, y2, ())); (.two .leaf (.two (.one (.two .leaf (.two .leaf (.one (.loop [.val (.tmp 0) (.slice .str), .val (.tmp 3) .str, .val (.tmp 4) (.int .i64), .val (.tmp 5) (.int .i64)] n (fun m x => F19l1 n rF19l0 m x.1 x.2.1 x.2.2.1 x.2.2.2.1) (fun _ => .leaf)))))) .leaf)))))) .leaf)))

theorem K19 (n : Nat) : PlOK (G19 n) noInl lay0 48 (P19 n) c19 (fnK lay0 [.tmp 2] [.val (.slice .str)] [.val .str] [.str]) :=
  ⟨trivial, ⟨trivial, ⟨⟨trivial, ⟨by kernel_rfl, fun x => by kernel_rfl, fun m => ⟨fun x => by kernel_rfl, ⟨trivial, ⟨⟨trivial, ⟨trivial, ⟨by kernel_rfl, fun x => by kernel_rfl, fun m => ⟨fun x => by kernel_rfl, trivial⟩⟩⟩⟩, trivial⟩⟩⟩⟩⟩, trivial⟩⟩⟩

theorem E19 (n : Nat) (a0 : List (List UInt8)) : F19 n a0 = fnE [.val (.slice .str)] (argDs [.slice .str] (a0)) (fun st => ev (G19 n) noInl lay0 48 c19 (P19 n) st (fnK lay0 [.tmp 2] [.val (.slice .str)] [.val .str] [.str])) := by kernel_rfl

theorem T19 (n : Nat) : Told Tryd.prog 19 [.slice .str] [.str] (fun x => F19 n x) := by
  rintro a0 r h
  exact calls_plain (fn_sound lay0_ok mixed (rvs := [.tmp 2]) (by kernel_rfl : Tryd.prog.funcs[19]? = some Tryd.f19) (by kernel_rfl : Tryd.f19.body = some c19) (by kernel_rfl) (by kernel_rfl) (by kernel_rfl) (GO19 n) noInl_ok (K19 n) ((E19 n a0).symm.trans h)) rfl rfl rfl rfl

/-! ### orthoepy/pointer.Parse -/

def F13j2 (n : Nat) (rF13l0 : Int → Bool → List (List UInt8) → List UInt8 → Int → Option ((List (List UInt8)) × Int × Bool)) (t6 : Int) (t7 : Bool) (t8 : List (List UInt8)) (t9 : List UInt8) (t10 : Int) (t11 : Int) : Option ((List (List UInt8)) × Int × Bool) :=
  (bif cutB 1 t11 (t9).length then
  (match F36 n (((t9).drop (Int.toNat 1)).take (Int.toNat t11 - Int.toNat 1)) with
  | some r2 =>
  (bif (decide (((t8).length + (([r2] : List (List UInt8))).length) * 16 ≤ maxRoom) && decide ((t8).length + (([r2] : List (List UInt8))).length ≤ maxRoom)) then
  (bif cutB t11 ((t9).length : Int) (t9).length then
  rF13l0 t6 t7 (t8 ++ ([r2] : List (List UInt8))) (((t9).drop (Int.toNat t11)).take (Int.toNat ((t9).length : Int) - Int.toNat t11)) (IntKind.wrap .i64 (t10 + t11))
  else none)
  else none)
  | none => none)
  else none)

def F13j1 (n : Nat) (rF13l0 : Int → Bool → List (List UInt8) → List UInt8 → Int → Option ((List (List UInt8)) × Int × Bool)) (t6 : Int) (t7 : Bool) (t8 : List (List UInt8)) (t9 : List UInt8) (t10 : Int) (t11 : Int) (t12 : Bool) : Option ((List (List UInt8)) × Int × Bool) :=
  (bif t12 then
    (bif (t11 == ((t9).length : Int)) then
      some (([] : List (List UInt8)), t6, false)
    else
      F13j2 n rF13l0 t6 t7 t8 t9 t10 t11)
  else
    F13j2 n rF13l0 t6 t7 t8 t9 t10 t11)

def F13j4 (n : Nat) (rF13l0 : Int → Bool → List (List UInt8) → List UInt8 → Int → Option ((List (List UInt8)) × Int × Bool)) (rF13l3 : Int → Bool → List (List UInt8) → List UInt8 → Int → Int → Bool → (List UInt8 × Nat) → Option ((List (List UInt8)) × Int × Bool)) (t6 : Int) (t7 : Bool) (t8 : List (List UInt8)) (t9 : List UInt8) (t10 : Int) (t11 : Int) (t12 : Bool) (t13 : Int) (t14 : Int) (t36 : (List UInt8 × Nat)) (t41 : Bool) : Option ((List (List UInt8)) × Int × Bool) :=
  (bif t41 then
    some (([] : List (List UInt8)), (IntKind.wrap .i64 ((IntKind.wrap .i64 (t10 + 1)) + t13)), false)
  else
    (bif (t14 == 47) then
      F13j1 n rF13l0 t6 t7 t8 t9 t10 (IntKind.wrap .i64 (1 + t13)) t12
    else
      rF13l3 t6 t7 t8 t9 t10 t11 (t14 == 126) (t36.1, t36.2)))

def F13l3F (n : Nat) (rF13l0 : Int → Bool → List (List UInt8) → List UInt8 → Int → Option ((List (List UInt8)) × Int × Bool)) (rF13l3 : Int → Bool → List (List UInt8) → List UInt8 → Int → Int → Bool → (List UInt8 × Nat) → Option ((List (List UInt8)) × Int × Bool)) (t6 : Int) (t7 : Bool) (t8 : List (List UInt8)) (t9 : List UInt8) (t10 : Int) (t11 : Int) (t12 : Bool) (t36 : (List UInt8 × Nat)) : Option ((List (List UInt8)) × Int × Bool) :=
  (bif (Nat.blt t36.2 (t36.1).length) then
    (bif t12 then
      (bif (((decR t36.1 t36.2).1 : Int) != 48) then
        F13j4 n rF13l0 rF13l3 t6 t7 t8 t9 t10 t11 t12 ((t36.2 : Nat) : Int) ((decR t36.1 t36.2).1 : Int) (t36.1, (t36.2 + (decR t36.1 t36.2).2)) (((decR t36.1 t36.2).1 : Int) != 49)
      else
        F13j4 n rF13l0 rF13l3 t6 t7 t8 t9 t10 t11 t12 ((t36.2 : Nat) : Int) ((decR t36.1 t36.2).1 : Int) (t36.1, (t36.2 + (decR t36.1 t36.2).2)) false)
    else
      F13j4 n rF13l0 rF13l3 t6 t7 t8 t9 t10 t11 t12 ((t36.2 : Nat) : Int) ((decR t36.1 t36.2).1 : Int) (t36.1, (t36.2 + (decR t36.1 t36.2).2)) false)
  else
    F13j1 n rF13l0 t6 t7 t8 t9 t10 t11 t12)
def F13l3 (n : Nat) (rF13l0 : Int → Bool → List (List UInt8) → List UInt8 → Int → Option ((List (List UInt8)) × Int × Bool)) : Nat → Int → Bool → List (List UInt8) → List UInt8 → Int → Int → Bool → (List UInt8 × Nat) → Option ((List (List UInt8)) × Int × Bool)
  | 0, _, _, _, _, _, _, _, _ => none
  | m + 1, t6, t7, t8, t9, t10, t11, t12, t36 => F13l3F n rF13l0 (F13l3 n rF13l0 m) t6 t7 t8 t9 t10 t11 t12 t36

def F13l0F (n : Nat) (rF13l0 : Int → Bool → List (List UInt8) → List UInt8 → Int → Option ((List (List UInt8)) × Int × Bool)) (t6 : Int) (t7 : Bool) (t8 : List (List UInt8)) (t9 : List UInt8) (t10 : Int) : Option ((List (List UInt8)) × Int × Bool) :=
  (bif (decide (t10 < t6)) then
    (bif inB 0 (t9).length then
    (bif ((((t9).getD (Int.toNat 0) 0).toNat : Int) != 47) then
      some (([] : List (List UInt8)), t10, false)
    else
      (bif cutB 1 ((t9).length : Int) (t9).length then
      F13l3 n rF13l0 n t6 t7 t8 t9 t10 ((t9).length : Int) false ((((t9).drop (Int.toNat 1)).take (Int.toNat ((t9).length : Int) - Int.toNat 1)), 0)
      else none))
    else none)
  else
    (bif (!t7) then
      some (([] : List (List UInt8)), t6, false)
    else
      some (t8, t6, true)))
def F13l0 (n : Nat) : Nat → Int → Bool → List (List UInt8) → List UInt8 → Int → Option ((List (List UInt8)) × Int × Bool)
  | 0, _, _, _, _, _ => none
  | m + 1, t6, t7, t8, t9, t10 => F13l0F n (F13l0 n m) t6 t7 t8 t9 t10

def F13 (n : Nat) (a0 : List UInt8) : Option ((List (List UInt8)) × Int × Bool) :=
  (match F35 n (bytesOf a0) with
  | some r1 =>
  (bif cutB 0 r1.2.1 (a0).length then
  F13l0 n n r1.2.1 r1.2.2 ([] : List (List UInt8)) (((a0).drop (Int.toNat 0)).take (Int.toNat r1.2.1 - Int.toNat 0)) 0
  else none)
  | none => none)

noncomputable def c13 : Code := Tryd.f13.body.getD .skip

noncomputable def G13 (n : Nat) : Ctx (Res [.slice .str, .int .i64, .bool]) := ent 35 [.slice (.int .u8)] [.slice (.int .i32), .int .i64, .bool] (fun x => F35 n x) (ent 36 [.str] [.str] (fun x => F36 n x) (noFns))

theorem GO13 (n : Nat) : CtxOK Tryd.prog lay0 (G13 n) := ent_ok (T35 n) (fun _ _ h => h) (ent_ok (T36 n) (fun _ _ h => h) (noFns_ok))

noncomputable def P13 (n : Nat) : Pl (Res [.slice .str, .int .i64, .bool]) :=
  (.two .leaf (.two .leaf (.two .leaf (.two .leaf (.two (.two .leaf (.one (.loop [.val (.tmp 6) (.int .i64), .val (.tmp 7) .bool, .vec (.tmp 8) 20000000 9 .str, .val (.tmp 9) .str, .val (.tmp 10) (.int .i64)] n (fun m x => F13l0 n m x.1 x.2.1 x.2.2.1 x.2.2.2.1 x.2.2.2.2.1) (fun r => let rF13l0 : Int → Bool → List (List UInt8) → List UInt8 → Int → Option ((List (List UInt8)) × Int × Bool) := (fun y0 y1 y2 y3 y4 => r (y0, y1, y2, y3, y4, ())); (.two .leaf (.one (.one (.two .leaf (.two .leaf (.two .leaf (.join [.val (.tmp 6) (.int .i64), .val (.tmp 7) .bool, .vec (.tmp 8) 20000000 9 .str, .val (.tmp 9) .str, .val (.tmp 10) (.int .i64), .val (.tmp 11) (.int .i64), .val (.tmp 12) .bool] (fun x => F13j1 n rF13l0 x.1 x.2.1 x.2.2.1 x.2.2.2.1 x.2.2.2.2.1 x.2.2.2.2.2.1 x.2.2.2.2.2.2.1) (.two .leaf (.one (.loop [.val (.tmp 6) (.int .i64), .val (.tmp 7) .bool, .vec (.tmp 8) 20000000 9 .str, .val (.tmp 9) .str, .val (.tmp 10) (.int .i64), .val (.tmp 11) (.int .i64), .val (.tmp 12) .bool, .itr (.tmp 36) 20000001] n (fun m x => F13l3 n rF13l0 m x.1 x.2.1 x.2.2.1 x.2.2.2.1 x.2.2.2.2.1 x.2.2.2.2.2.1 x.2.2.2.2.2.2.1 x.2.2.2.2.2.2.2.1) (fun r => let rF13l3 : Int → Bool → List (List UInt8) → List UInt8 → Int → Int → Bool → (List UInt8 × Nat) → Option ((List (List UInt8)) × Int × Bool) := (fun y0 y1 y2 y3 y4 y5 y6 y7 => r (y0, y1, y2, y3, y4, y5, y6, y7, ())); (.two .leaf (.two .leaf (.one (.two .leaf (.two (.one (.join [.val (.tmp 6) (.int .i64), .val (.tmp 7) .bool, .vec (.tmp 8) 20000000 9 .str, .val (.tmp 9) .str, .val (.tmp 10) (.int .i64), .val (.tmp 11) (.int .i64), .val (.tmp 12) .bool, .val (.tmp 13) (.int .i64), .val (.tmp 14) (.int .i32), .itr (.tmp 36) 20000001, .val (.tmp 41) .bool] (fun x => F13j4 n rF13l0 rF13l3 x.1 x.2.1 x.2.2.1 x.2.2.2.1 x.2.2.2.2.1 x.2.2.2.2.2.1 x.2.2.2.2.2.2.1 x.2.2.2.2.2.2.2.1 x.2.2.2.2.2.2.2.2.1 x.2.2.2.2.2.2.2.2.2.1 x.2.2.2.2.2.2.2.2.2.2.1) .leaf .leaf)) .leaf))))))))) (.join [.val (.tmp 6) (.int .i64), .val (.tmp 7) .bool, .vec (.tmp 8) 20000000 9 .str, .val (.tmp 9) .str, .val (.tmp 10) (.int .i64), .val (.tmp 11) (.int .i64)] (fun x => F13j2 n rF13l0 x.1 x.2.1 x.2.2.1 x.2.2.2.1 x.2.2.2.2.1 x.2.2.2.2.2.1) .leaf .leaf)))))))))))) .leaf)))))

theorem K13 (n : Nat) : PlOK (G13 n) noInl lay0 88 (P13 n) c13 (fnK lay0 [.tmp 2, .tmp 3, .tmp 4] [.val .str] [.val (.slice .str), .val (.int .i64), .val .bool] [.slice .str, .int .i64, .bool]) :=
  ⟨trivial, ⟨trivial, ⟨trivial, ⟨trivial, ⟨⟨trivial, ⟨by kernel_rfl, fun x => by kernel_rfl, fun m => ⟨fun x => by kernel_rfl, ⟨trivial, ⟨trivial, ⟨trivial, ⟨trivial, ⟨by kernel_rfl, fun x => by kernel_rfl, ⟨trivial, ⟨by kernel_rfl, fun x => by kernel_rfl, fun m => ⟨fun x => by kernel_rfl, ⟨trivial, ⟨trivial, ⟨trivial, ⟨⟨by kernel_rfl, fun x => by kernel_rfl, trivial, trivial⟩, trivial⟩⟩⟩⟩⟩⟩⟩, ⟨by kernel_rfl, fun x => by kernel_rfl, trivial, trivial⟩⟩⟩⟩⟩⟩⟩⟩⟩, trivial⟩⟩⟩⟩⟩

theorem E13 (n : Nat) (a0 : List UInt8) : F13 n a0 = fnE [.val .str] (argDs [.str] (a0)) (fun st => ev (G13 n) noInl lay0 88 c13 (P13 n) st (fnK lay0 [.tmp 2, .tmp 3, .tmp 4] [.val .str] [.val (.slice .str), .val (.int .i64), .val .bool] [.slice .str, .int .i64, .bool])) := by kernel_rfl

theorem T13 (n : Nat) : Told Tryd.prog 13 [.str] [.slice .str, .int .i64, .bool] (fun x => F13 n x) := by
  rintro a0 r h
  exact calls_plain (fn_sound lay0_ok mixed (rvs := [.tmp 2, .tmp 3, .tmp 4]) (by kernel_rfl : Tryd.prog.funcs[13]? = some Tryd.f13) (by kernel_rfl : Tryd.f13.body = some c13) (by kernel_rfl) (by kernel_rfl) (by kernel_rfl) (GO13 n) noInl_ok (K13 n) ((E13 n a0).symm.trans h)) rfl rfl rfl rfl

end Go.Proofs.YtaeamjhgfhcjdaaDoor.Ab
