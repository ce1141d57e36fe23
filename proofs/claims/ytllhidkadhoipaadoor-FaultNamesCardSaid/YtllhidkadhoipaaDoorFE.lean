/- The errors' own texts, told by what fault.Text tells of the error within. Printed by wip/gen/gen3.py, the callee a parameter (wip/seat/FaultmkFE.py). -/
import Derived.Test.YtllhidkadhoipaaDoorFA
namespace Go.Proofs.YtllhidkadhoipaaDoor.Ab.Ft
open Go Go.RowKit Go.Proofs Go.Proofs.YtllhidkadhoipaaDoor.Ab
set_option maxRecDepth 100000
set_option maxHeartbeats 4000000
set_option linter.unusedVariables false

noncomputable def layL : List (Nat × LInfo) := [
  (3, ⟨Tryd.t3.desc, (Tryd.t3.zero).getD .nilFunc, 1, 8, some (.int .i64), false, false⟩),
  (9, ⟨Tryd.t9.desc, (Tryd.t9.zero).getD .nilFunc, 1, 16, some .str, false, false⟩),
  (26, ⟨Tryd.t25.desc, (Tryd.t26.zero).getD .nilFunc, 1, 16, some .err, false, false⟩),
  (49, ⟨Tryd.t3.desc, (Tryd.t49.zero).getD .nilFunc, 1, 8, some (.int .i64), false, false⟩),
  (51, ⟨Tryd.t50.desc, (Tryd.t51.zero).getD .nilFunc, 2, 16, some (.pair (.int .i64) (.pair (.int .i64) .unit)), false, false⟩),
  (54, ⟨Tryd.t53.desc, (Tryd.t54.zero).getD .nilFunc, 2, 32, some (.pair .err (.pair .str .unit)), false, false⟩),
  (57, ⟨Tryd.t56.desc, (Tryd.t57.zero).getD .nilFunc, 2, 24, some (.pair .err (.pair (.int .i64) .unit)), false, false⟩)]

theorem layAll : LayAll Tryd.prog layL := by
  refine .cons (by kernel_rfl) (by kernel_rfl) (by kernel_rfl) ?_
  refine .cons (by kernel_rfl) (by kernel_rfl) (by kernel_rfl) ?_
  refine .cons (by kernel_rfl) (by kernel_rfl) (by kernel_rfl) ?_
  refine .cons (by kernel_rfl) (by kernel_rfl) (by kernel_rfl) ?_
  refine .cons (by kernel_rfl) (by kernel_rfl) (by kernel_rfl) ?_
  refine .cons (by kernel_rfl) (by kernel_rfl) (by kernel_rfl) ?_
  refine .cons (by kernel_rfl) (by kernel_rfl) (by kernel_rfl) ?_
  exact .nil

theorem mixed : Tryd.prog.follows .mixedOrders = true := by kernel_rfl

theorem layEq : ∀ t i, layF layL t = some i → EqOK Tryd.prog (layF layL) t i := eq_none (by kernel_rfl)

theorem layKeys : KeysOK Tryd.prog layL := keys_none (by kernel_rfl)

noncomputable def lay0 : Lay := layOf layL []
theorem lay0_ok : LayOK Tryd.prog lay0 := layOf_ok layAll (by simp) layEq layKeys


/-! ### (*orthoepy/fault.problem).Error -/

def F55 (n : Nat) (a0 : Option (Int × (Int × Unit))) : Option ((List UInt8)) :=
  (bif (Option.isSome a0) then
  (match F57 n (Option.getD a0 (Ty.dflt (.pair (.int .i64) (.pair (.int .i64) .unit)))).1 with
  | some r1 =>
  (bif decide (r1.length + ([32] : List UInt8).length ≤ 9223372036854775807) then
  (bif (Option.isSome a0) then
  (match F58 n (Option.getD a0 (Ty.dflt (.pair (.int .i64) (.pair (.int .i64) .unit)))).2.1 with
  | some r2 =>
  (bif decide ((r1 ++ ([32] : List UInt8)).length + r2.length ≤ 9223372036854775807) then
  some ((r1 ++ ([32] : List UInt8)) ++ r2)
  else none)
  | none => none)
  else none)
  else none)
  | none => none)
  else none)

noncomputable def c55 : Code := Tryd.f55.body.getD .skip

noncomputable def G55 (n : Nat) : Ctx (Res [.str]) := ent 57 [.int .i64] [.str] (fun x => F57 n x) (ent 58 [.int .i64] [.str] (fun x => F58 n x) (noFns))

theorem GO55 (n : Nat) : CtxOK Tryd.prog lay0 (G55 n) := ent_ok (T57 n) (fun _ _ h => h) (ent_ok (T58 n) (fun _ _ h => h) (noFns_ok))

noncomputable def P55 (n : Nat) : Pl (Res [.str]) :=
  .leaf

theorem K55 (n : Nat) : PlOK (G55 n) noInl lay0 15 (P55 n) c55 (fnK lay0 [.tmp 2] [.val (.ref (.pair (.int .i64) (.pair (.int .i64) .unit)))] [.val .str] [.str]) :=
  trivial

theorem E55 (n : Nat) (a0 : Option (Int × (Int × Unit))) : F55 n a0 = fnE [.val (.ref (.pair (.int .i64) (.pair (.int .i64) .unit)))] (argDs [.ref (.pair (.int .i64) (.pair (.int .i64) .unit))] (a0)) (fun st => ev (G55 n) noInl lay0 15 c55 (P55 n) st (fnK lay0 [.tmp 2] [.val (.ref (.pair (.int .i64) (.pair (.int .i64) .unit)))] [.val .str] [.str])) := by kernel_rfl

theorem T55 (n : Nat) : Told Tryd.prog 55 [.ref (.pair (.int .i64) (.pair (.int .i64) .unit))] [.str] (fun x => F55 n x) := by
  rintro a0 r h
  exact calls_plain (fn_sound lay0_ok mixed (rvs := [.tmp 2]) (by kernel_rfl : Tryd.prog.funcs[55]? = some Tryd.f55) (by kernel_rfl : Tryd.f55.body = some c55) (by kernel_rfl) (by kernel_rfl) (by kernel_rfl) (GO55 n) noInl_ok (K55 n) ((E55 n a0).symm.trans h)) rfl rfl rfl rfl

/-! ### (*orthoepy/fault.wrapped).Error -/

def F59 (f15 : Er → Option (List UInt8)) (n : Nat) (a0 : Option (Er × (List UInt8 × Unit))) : Option ((List UInt8)) :=
  (bif (Option.isSome a0) then
  (bif decide ((Option.getD a0 (Ty.dflt (.pair .err (.pair .str .unit)))).2.1.length + ([58, 32] : List UInt8).length ≤ 9223372036854775807) then
  (bif (Option.isSome a0) then
  (match f15 (Option.getD a0 (Ty.dflt (.pair .err (.pair .str .unit)))).1 with
  | some r1 =>
  (bif decide (((Option.getD a0 (Ty.dflt (.pair .err (.pair .str .unit)))).2.1 ++ ([58, 32] : List UInt8)).length + r1.length ≤ 9223372036854775807) then
  some (((Option.getD a0 (Ty.dflt (.pair .err (.pair .str .unit)))).2.1 ++ ([58, 32] : List UInt8)) ++ r1)
  else none)
  | none => none)
  else none)
  else none)
  else none)

noncomputable def c59 : Code := Tryd.f59.body.getD .skip

noncomputable def G59 (f15 : Er → Option (List UInt8)) (n : Nat) : Ctx (Res [.str]) := ent 15 [.err] [.str] (fun x => f15 x) (noFns)

theorem GO59 (f15 : Er → Option (List UInt8)) (h15 : Told Tryd.prog 15 [.err] [.str] (fun x => f15 x)) (n : Nat) : CtxOK Tryd.prog lay0 (G59 f15 n) := ent_ok (h15) (fun _ _ h => h) (noFns_ok)

noncomputable def P59 (f15 : Er → Option (List UInt8)) (n : Nat) : Pl (Res [.str]) :=
  .leaf

theorem K59 (f15 : Er → Option (List UInt8)) (n : Nat) : PlOK (G59 f15 n) noInl lay0 14 (P59 f15 n) c59 (fnK lay0 [.tmp 2] [.val (.ref (.pair .err (.pair .str .unit)))] [.val .str] [.str]) :=
  trivial

theorem E59 (f15 : Er → Option (List UInt8)) (n : Nat) (a0 : Option (Er × (List UInt8 × Unit))) : F59 f15 n a0 = fnE [.val (.ref (.pair .err (.pair .str .unit)))] (argDs [.ref (.pair .err (.pair .str .unit))] (a0)) (fun st => ev (G59 f15 n) noInl lay0 14 c59 (P59 f15 n) st (fnK lay0 [.tmp 2] [.val (.ref (.pair .err (.pair .str .unit)))] [.val .str] [.str])) := by kernel_rfl

theorem T59 (f15 : Er → Option (List UInt8)) (h15 : Told Tryd.prog 15 [.err] [.str] (fun x => f15 x)) (n : Nat) : Told Tryd.prog 59 [.ref (.pair .err (.pair .str .unit))] [.str] (fun x => F59 f15 n x) := by
  rintro a0 r h
  exact calls_plain (fn_sound lay0_ok mixed (rvs := [.tmp 2]) (by kernel_rfl : Tryd.prog.funcs[59]? = some Tryd.f59) (by kernel_rfl : Tryd.f59.body = some c59) (by kernel_rfl) (by kernel_rfl) (by kernel_rfl) (GO59 f15 h15 n) noInl_ok (K59 f15 n) ((E59 f15 n a0).symm.trans h)) rfl rfl rfl rfl

/-! ### (*orthoepy/fault.input).Error -/

def F61 (f15 : Er → Option (List UInt8)) (n : Nat) (a0 : Option (Er × (Int × Unit))) : Option ((List UInt8)) :=
  (bif (Option.isSome a0) then
  (match f15 (Option.getD a0 (Ty.dflt (.pair .err (.pair (.int .i64) .unit)))).1 with
  | some r1 =>
  some r1
  | none => none)
  else none)

noncomputable def c61 : Code := Tryd.f61.body.getD .skip

noncomputable def G61 (f15 : Er → Option (List UInt8)) (n : Nat) : Ctx (Res [.str]) := ent 15 [.err] [.str] (fun x => f15 x) (noFns)

theorem GO61 (f15 : Er → Option (List UInt8)) (h15 : Told Tryd.prog 15 [.err] [.str] (fun x => f15 x)) (n : Nat) : CtxOK Tryd.prog lay0 (G61 f15 n) := ent_ok (h15) (fun _ _ h => h) (noFns_ok)

noncomputable def P61 (f15 : Er → Option (List UInt8)) (n : Nat) : Pl (Res [.str]) :=
  .leaf

theorem K61 (f15 : Er → Option (List UInt8)) (n : Nat) : PlOK (G61 f15 n) noInl lay0 8 (P61 f15 n) c61 (fnK lay0 [.tmp 2] [.val (.ref (.pair .err (.pair (.int .i64) .unit)))] [.val .str] [.str]) :=
  trivial

theorem E61 (f15 : Er → Option (List UInt8)) (n : Nat) (a0 : Option (Er × (Int × Unit))) : F61 f15 n a0 = fnE [.val (.ref (.pair .err (.pair (.int .i64) .unit)))] (argDs [.ref (.pair .err (.pair (.int .i64) .unit))] (a0)) (fun st => ev (G61 f15 n) noInl lay0 8 c61 (P61 f15 n) st (fnK lay0 [.tmp 2] [.val (.ref (.pair .err (.pair (.int .i64) .unit)))] [.val .str] [.str])) := by kernel_rfl

theorem T61 (f15 : Er → Option (List UInt8)) (h15 : Told Tryd.prog 15 [.err] [.str] (fun x => f15 x)) (n : Nat) : Told Tryd.prog 61 [.ref (.pair .err (.pair (.int .i64) .unit))] [.str] (fun x => F61 f15 n x) := by
  rintro a0 r h
  exact calls_plain (fn_sound lay0_ok mixed (rvs := [.tmp 2]) (by kernel_rfl : Tryd.prog.funcs[61]? = some Tryd.f61) (by kernel_rfl : Tryd.f61.body = some c61) (by kernel_rfl) (by kernel_rfl) (by kernel_rfl) (GO61 f15 h15 n) noInl_ok (K61 f15 n) ((E61 f15 n a0).symm.trans h)) rfl rfl rfl rfl

end Go.Proofs.YtllhidkadhoipaaDoor.Ab.Ft
