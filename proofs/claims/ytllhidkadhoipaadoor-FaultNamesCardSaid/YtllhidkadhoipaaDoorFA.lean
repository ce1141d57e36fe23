/- Functions of the program as Lean functions. Printed by wip/gen/gen3.py. -/
import Derived.Test.YtllhidkadhoipaaDoorFH7
import Derived.Test.YtllhidkadhoipaaDoorChecked
namespace Go.Proofs.YtllhidkadhoipaaDoor.Ab
open Go Go.RowKit Go.Proofs
set_option maxRecDepth 100000
set_option maxHeartbeats 4000000
set_option linter.unusedVariables false

noncomputable def layL : List (Nat × LInfo) := [
  (3, ⟨Tryd.t3.desc, (Tryd.t3.zero).getD .nilFunc, 1, 8, some (.int .i64), false, false⟩),
  (4, ⟨Tryd.t4.desc, (Tryd.t4.zero).getD .nilFunc, 1, 1, some .bool, false, false⟩),
  (5, ⟨Tryd.t5.desc, (Tryd.t5.zero).getD .nilFunc, 1, 1, some (.int .u8), false, false⟩),
  (9, ⟨Tryd.t9.desc, (Tryd.t9.zero).getD .nilFunc, 1, 16, some .str, false, false⟩),
  (21, ⟨Tryd.t21.desc, (Tryd.t21.zero).getD .nilFunc, 1, 4, some (.int .i32), false, false⟩),
  (22, ⟨Tryd.t22.desc, (Tryd.t22.zero).getD .nilFunc, 1, 24, some (.slice .str), false, false⟩),
  (23, ⟨Tryd.t23.desc, (Tryd.t23.zero).getD .nilFunc, 1, 24, some (.slice (.int .i64)), false, false⟩),
  (26, ⟨Tryd.t25.desc, (Tryd.t26.zero).getD .nilFunc, 1, 16, some .err, false, false⟩),
  (28, ⟨Tryd.t3.desc, (Tryd.t28.zero).getD .nilFunc, 1, 8, some (.int .i64), false, false⟩),
  (30, ⟨Tryd.t29.desc, (Tryd.t30.zero).getD .nilFunc, 3, 24, some (.pair (.int .i64) (.pair (.int .i64) (.pair (.int .i64) .unit))), true, false⟩),
  (32, ⟨Tryd.t31.desc, (Tryd.t32.zero).getD .nilFunc, 5, 48, some (.pair .bool (.pair (.pair (.int .i64) (.pair (.int .i64) (.pair (.int .i64) .unit))) (.pair .str .unit))), false, false⟩),
  (63, ⟨Tryd.t63.desc, (Tryd.t63.zero).getD .nilFunc, 20, 320, some (.arr 20 .str), false, false⟩),
  (132, ⟨Tryd.t132.desc, (Tryd.t132.zero).getD .nilFunc, 1, 8, some (.int .u64), false, false⟩)]

theorem layAll : LayAll Tryd.prog layL := by
  refine .cons (by kernel_rfl) (by kernel_rfl) (by kernel_rfl) ?_
  refine .cons (by kernel_rfl) (by kernel_rfl) (by kernel_rfl) ?_
  refine .cons (by kernel_rfl) (by kernel_rfl) (by kernel_rfl) ?_
  refine .cons (by kernel_rfl) (by kernel_rfl) (by kernel_rfl) ?_
  refine .cons (by kernel_rfl) (by kernel_rfl) (by kernel_rfl) ?_
  refine .cons (by kernel_rfl) (by kernel_rfl) (by kernel_rfl) ?_
  refine .cons (by kernel_rfl) (by kernel_rfl) (by kernel_rfl) ?_
  refine .cons (by kernel_rfl) (by kernel_rfl) (by kernel_rfl) ?_
  refine .cons (by kernel_rfl) (by kernel_rfl) (by kernel_rfl) ?_
  refine .cons (by kernel_rfl) (by kernel_rfl) (by kernel_rfl) ?_
  refine .cons (by kernel_rfl) (by kernel_rfl) (by kernel_rfl) ?_
  refine .cons (by kernel_rfl) (by kernel_rfl) (by kernel_rfl) ?_
  refine .cons (by kernel_rfl) (by kernel_rfl) (by kernel_rfl) ?_
  exact .nil

theorem mixed : Tryd.prog.follows .mixedOrders = true := by kernel_rfl

theorem layEq : ∀ t i, layF layL t = some i → EqOK Tryd.prog (layF layL) t i := eq_all (by kernel_rfl)

theorem layKeys : KeysOK Tryd.prog layL := keys_none (by kernel_rfl)

noncomputable def lay0 : Lay := layOf layL []
theorem lay0_ok : LayOK Tryd.prog lay0 := layOf_ok layAll (by simp) layEq layKeys


/-! ### orthoepy/fault.Name -/

def F17 (n : Nat) (a0 : Int) : Option ((List UInt8)) :=
  (match F24 n ([111, 107, 32, 97, 114, 103, 117, 109, 101, 110, 116, 32, 116, 101, 120, 116, 32, 101, 110, 100, 32, 117, 116, 102, 56, 32, 115, 117, 114, 114, 111, 103, 97, 116, 101, 32, 110, 111, 110, 99, 104, 97, 114, 97, 99, 116, 101, 114, 32, 102, 114, 97, 99, 116, 105, 111, 110, 32, 114, 97, 110, 103, 101, 32, 116, 119, 105, 99, 101, 32, 98, 121, 116, 101, 115, 32, 100, 101, 112, 116, 104, 32, 110, 111, 100, 101, 115, 32, 107, 101, 121, 32, 108, 111, 110, 103, 32, 112, 111, 105, 110, 116, 101, 114, 32, 110, 111, 110, 101, 32, 115, 116, 97, 116, 101, 32, 98, 105, 103, 32, 108, 105, 110, 101] : List UInt8) with
  | some r1 =>
  (bif (decide (a0 < 0)) then
    some ([] : List UInt8)
  else
    (bif (decide (a0 ≥ ((r1).length : Int))) then
      some ([] : List UInt8)
    else
      (bif inB a0 (r1).length then
      some ((r1).getD (Int.toNat a0) (Ty.dflt .str))
      else none)))
  | none => none)

noncomputable def c17 : Code := Tryd.f17.body.getD .skip

noncomputable def G17 (n : Nat) : Ctx (Res [.str]) := ent 24 [.str] [.slice .str] (fun x => F24 n x) (noFns)

theorem GO17 (n : Nat) : CtxOK Tryd.prog lay0 (G17 n) := ent_ok (T24 n) (fun _ _ h => h) (noFns_ok)

noncomputable def P17 (n : Nat) : Pl (Res [.str]) :=
  .leaf

theorem K17 (n : Nat) : PlOK (G17 n) noInl lay0 17 (P17 n) c17 (fnK lay0 [.tmp 2] [.val (.int .i64)] [.val .str] [.str]) :=
  trivial

theorem E17 (n : Nat) (a0 : Int) : F17 n a0 = fnE [.val (.int .i64)] (argDs [.int .i64] (a0)) (fun st => ev (G17 n) noInl lay0 17 c17 (P17 n) st (fnK lay0 [.tmp 2] [.val (.int .i64)] [.val .str] [.str])) := by kernel_rfl

theorem T17 (n : Nat) : Told Tryd.prog 17 [.int .i64] [.str] (fun x => F17 n x) := by
  rintro a0 r h
  exact calls_plain (fn_sound lay0_ok mixed (rvs := [.tmp 2]) (by kernel_rfl : Tryd.prog.funcs[17]? = some Tryd.f17) (by kernel_rfl : Tryd.f17.body = some c17) (by kernel_rfl) (by kernel_rfl) (by kernel_rfl) (GO17 n) noInl_ok (K17 n) ((E17 n a0).symm.trans h)) rfl rfl rfl rfl

/-! ### (orthoepy/fault.mark).Error -/

def F57 (n : Nat) (a0 : Int) : Option ((List UInt8)) :=
  (match F17 n a0 with
  | some r1 =>
  some r1
  | none => none)

noncomputable def c57 : Code := Tryd.f57.body.getD .skip

noncomputable def G57 (n : Nat) : Ctx (Res [.str]) := ent 17 [.int .i64] [.str] (fun x => F17 n x) (noFns)

theorem GO57 (n : Nat) : CtxOK Tryd.prog lay0 (G57 n) := ent_ok (T17 n) (fun _ _ h => h) (noFns_ok)

noncomputable def P57 (n : Nat) : Pl (Res [.str]) :=
  .leaf

theorem K57 (n : Nat) : PlOK (G57 n) noInl lay0 5 (P57 n) c57 (fnK lay0 [.tmp 2] [.val (.int .i64)] [.val .str] [.str]) :=
  trivial

theorem E57 (n : Nat) (a0 : Int) : F57 n a0 = fnE [.val (.int .i64)] (argDs [.int .i64] (a0)) (fun st => ev (G57 n) noInl lay0 5 c57 (P57 n) st (fnK lay0 [.tmp 2] [.val (.int .i64)] [.val .str] [.str])) := by kernel_rfl

theorem T57 (n : Nat) : Told Tryd.prog 57 [.int .i64] [.str] (fun x => F57 n x) := by
  rintro a0 r h
  exact calls_plain (fn_sound lay0_ok mixed (rvs := [.tmp 2]) (by kernel_rfl : Tryd.prog.funcs[57]? = some Tryd.f57) (by kernel_rfl : Tryd.f57.body = some c57) (by kernel_rfl) (by kernel_rfl) (by kernel_rfl) (GO57 n) noInl_ok (K57 n) ((E57 n a0).symm.trans h)) rfl rfl rfl rfl

/-! ### orthoepy/fault.digits -/

def F58l1F (n : Nat) (rF58l1 : Int → Int → List UInt8 → Option ((List UInt8))) (t0 : Int) (t3 : Int) (t4 : List UInt8) : Option ((List UInt8)) :=
  (bif (decide (t3 > 0)) then
    (bif (!(10 == 0)) then
    (bif decide ((runeStr (IntKind.wrap .i32 ((IntKind.wrap .u64 (48 + (Int.tmod t3 10)))))).length + t4.length ≤ 9223372036854775807) then
    (bif (!(10 == 0)) then
    rF58l1 t0 (IntKind.wrap .u64 (Int.tdiv t3 10)) ((runeStr (IntKind.wrap .i32 ((IntKind.wrap .u64 (48 + (Int.tmod t3 10)))))) ++ t4)
    else none)
    else none)
    else none)
  else
    (bif (t4 == ([] : List UInt8)) then
      (bif (!(10 == 0)) then
      (bif decide ((runeStr (IntKind.wrap .i32 ((IntKind.wrap .u64 (48 + (Int.tmod t3 10)))))).length + t4.length ≤ 9223372036854775807) then
      (bif (!(10 == 0)) then
      rF58l1 t0 (IntKind.wrap .u64 (Int.tdiv t3 10)) ((runeStr (IntKind.wrap .i32 ((IntKind.wrap .u64 (48 + (Int.tmod t3 10)))))) ++ t4)
      else none)
      else none)
      else none)
    else
      (bif (decide (t0 < 0)) then
        (bif decide (([45] : List UInt8).length + t4.length ≤ 9223372036854775807) then
        some (([45] : List UInt8) ++ t4)
        else none)
      else
        some t4)))
def F58l1 (n : Nat) : Nat → Int → Int → List UInt8 → Option ((List UInt8))
  | 0, _, _, _ => none
  | m + 1, t0, t3, t4 => F58l1F n (F58l1 n m) t0 t3 t4

def F58j0 (n : Nat) (t0 : Int) (t3 : Int) (t4 : List UInt8) : Option ((List UInt8)) :=
  F58l1 n n t0 t3 t4

def F58 (n : Nat) (a0 : Int) : Option ((List UInt8)) :=
  (bif (decide (a0 < 0)) then
    F58j0 n a0 (IntKind.wrap .u64 (0 - (IntKind.wrap .u64 (a0)))) ([] : List UInt8)
  else
    F58j0 n a0 (IntKind.wrap .u64 (a0)) ([] : List UInt8))

noncomputable def c58 : Code := Tryd.f58.body.getD .skip

noncomputable def G58 (n : Nat) : Ctx (Res [.str]) := noFns

theorem GO58 (n : Nat) : CtxOK Tryd.prog lay0 (G58 n) := noFns_ok

noncomputable def P58 (n : Nat) : Pl (Res [.str]) :=
  (.two .leaf (.two .leaf (.join [.val (.tmp 0) (.int .i64), .val (.tmp 3) (.int .u64), .val (.tmp 4) .str] (fun x => F58j0 n x.1 x.2.1 x.2.2.1) .leaf (.two (.one (.loop [.val (.tmp 0) (.int .i64), .val (.tmp 3) (.int .u64), .val (.tmp 4) .str] n (fun m x => F58l1 n m x.1 x.2.1 x.2.2.1) (fun _ => .leaf))) .leaf))))

theorem K58 (n : Nat) : PlOK (G58 n) noInl lay0 31 (P58 n) c58 (fnK lay0 [.tmp 2] [.val (.int .i64)] [.val .str] [.str]) :=
  ⟨trivial, ⟨trivial, ⟨by kernel_rfl, fun x => by kernel_rfl, trivial, ⟨⟨by kernel_rfl, fun x => by kernel_rfl, fun m => ⟨fun x => by kernel_rfl, trivial⟩⟩, trivial⟩⟩⟩⟩

theorem E58 (n : Nat) (a0 : Int) : F58 n a0 = fnE [.val (.int .i64)] (argDs [.int .i64] (a0)) (fun st => ev (G58 n) noInl lay0 31 c58 (P58 n) st (fnK lay0 [.tmp 2] [.val (.int .i64)] [.val .str] [.str])) := by kernel_rfl

theorem T58 (n : Nat) : Told Tryd.prog 58 [.int .i64] [.str] (fun x => F58 n x) := by
  rintro a0 r h
  exact calls_plain (fn_sound lay0_ok mixed (rvs := [.tmp 2]) (by kernel_rfl : Tryd.prog.funcs[58]? = some Tryd.f58) (by kernel_rfl : Tryd.f58.body = some c58) (by kernel_rfl) (by kernel_rfl) (by kernel_rfl) (GO58 n) noInl_ok (K58 n) ((E58 n a0).symm.trans h)) rfl rfl rfl rfl

/-! ### orthoepy/orthoepyref10.Print -/

def F20B (self : Int → Option ((List UInt8))) (n : Nat) (a0 : Int) : Option ((List UInt8)) :=
  (bif (decide (a0 ≤ (-10))) then
    (bif (!(10 == 0)) then
    (bif (!(10 == 0)) then
    (match self (IntKind.wrap .i64 (Int.tdiv a0 10)) with
    | some r1 =>
    (bif cutB (IntKind.wrap .i64 (0 - (Int.tmod a0 10))) (IntKind.wrap .i64 ((IntKind.wrap .i64 (0 - (Int.tmod a0 10))) + 1)) (([48, 49, 50, 51, 52, 53, 54, 55, 56, 57] : List UInt8)).length then
    (bif decide (r1.length + (((([48, 49, 50, 51, 52, 53, 54, 55, 56, 57] : List UInt8)).drop (Int.toNat (IntKind.wrap .i64 (0 - (Int.tmod a0 10))))).take (Int.toNat (IntKind.wrap .i64 ((IntKind.wrap .i64 (0 - (Int.tmod a0 10))) + 1)) - Int.toNat (IntKind.wrap .i64 (0 - (Int.tmod a0 10))))).length ≤ 9223372036854775807) then
    some (r1 ++ (((([48, 49, 50, 51, 52, 53, 54, 55, 56, 57] : List UInt8)).drop (Int.toNat (IntKind.wrap .i64 (0 - (Int.tmod a0 10))))).take (Int.toNat (IntKind.wrap .i64 ((IntKind.wrap .i64 (0 - (Int.tmod a0 10))) + 1)) - Int.toNat (IntKind.wrap .i64 (0 - (Int.tmod a0 10))))))
    else none)
    else none)
    | none => none)
    else none)
    else none)
  else
    (bif (decide (a0 < 0)) then
      (bif cutB (IntKind.wrap .i64 (0 - a0)) (IntKind.wrap .i64 ((IntKind.wrap .i64 (0 - a0)) + 1)) (([48, 49, 50, 51, 52, 53, 54, 55, 56, 57] : List UInt8)).length then
      (bif decide (([45] : List UInt8).length + (((([48, 49, 50, 51, 52, 53, 54, 55, 56, 57] : List UInt8)).drop (Int.toNat (IntKind.wrap .i64 (0 - a0)))).take (Int.toNat (IntKind.wrap .i64 ((IntKind.wrap .i64 (0 - a0)) + 1)) - Int.toNat (IntKind.wrap .i64 (0 - a0)))).length ≤ 9223372036854775807) then
      some (([45] : List UInt8) ++ (((([48, 49, 50, 51, 52, 53, 54, 55, 56, 57] : List UInt8)).drop (Int.toNat (IntKind.wrap .i64 (0 - a0)))).take (Int.toNat (IntKind.wrap .i64 ((IntKind.wrap .i64 (0 - a0)) + 1)) - Int.toNat (IntKind.wrap .i64 (0 - a0)))))
      else none)
      else none)
    else
      (bif (decide (a0 < 10)) then
        (bif cutB a0 (IntKind.wrap .i64 (a0 + 1)) (([48, 49, 50, 51, 52, 53, 54, 55, 56, 57] : List UInt8)).length then
        some (((([48, 49, 50, 51, 52, 53, 54, 55, 56, 57] : List UInt8)).drop (Int.toNat a0)).take (Int.toNat (IntKind.wrap .i64 (a0 + 1)) - Int.toNat a0))
        else none)
      else
        (bif (!(10 == 0)) then
        (match self (IntKind.wrap .i64 (Int.tdiv a0 10)) with
        | some r2 =>
        (bif (!(10 == 0)) then
        (bif (!(10 == 0)) then
        (bif cutB (Int.tmod a0 10) (IntKind.wrap .i64 ((Int.tmod a0 10) + 1)) (([48, 49, 50, 51, 52, 53, 54, 55, 56, 57] : List UInt8)).length then
        (bif decide (r2.length + (((([48, 49, 50, 51, 52, 53, 54, 55, 56, 57] : List UInt8)).drop (Int.toNat (Int.tmod a0 10))).take (Int.toNat (IntKind.wrap .i64 ((Int.tmod a0 10) + 1)) - Int.toNat (Int.tmod a0 10))).length ≤ 9223372036854775807) then
        some (r2 ++ (((([48, 49, 50, 51, 52, 53, 54, 55, 56, 57] : List UInt8)).drop (Int.toNat (Int.tmod a0 10))).take (Int.toNat (IntKind.wrap .i64 ((Int.tmod a0 10) + 1)) - Int.toNat (Int.tmod a0 10))))
        else none)
        else none)
        else none)
        else none)
        | none => none)
        else none))))

def F20 : Nat → Int → Option ((List UInt8))
  | 0, _ => none
  | n + 1, a0 => F20B (F20 n) n a0

noncomputable def c20 : Code := Tryd.f20.body.getD .skip

noncomputable def G20 (self : Int → Option ((List UInt8))) (n : Nat) : Ctx (Res [.str]) := ent 20 [.int .i64] [.str] (fun x => self x) (noFns)

theorem GO20 (self : Int → Option ((List UInt8))) (hs : Told Tryd.prog 20 [.int .i64] [.str] (fun x => self x)) (n : Nat) : CtxOK Tryd.prog lay0 (G20 self n) := ent_ok hs (fun _ _ h => h) (noFns_ok)

noncomputable def P20 (self : Int → Option ((List UInt8))) (n : Nat) : Pl (Res [.str]) :=
  .leaf

theorem K20 (self : Int → Option ((List UInt8))) (n : Nat) : PlOK (G20 self n) noInl lay0 45 (P20 self n) c20 (fnK lay0 [.tmp 2] [.val (.int .i64)] [.val .str] [.str]) :=
  trivial

theorem E20 (self : Int → Option ((List UInt8))) (n : Nat) (a0 : Int) : F20B self n a0 = fnE [.val (.int .i64)] (argDs [.int .i64] (a0)) (fun st => ev (G20 self n) noInl lay0 45 c20 (P20 self n) st (fnK lay0 [.tmp 2] [.val (.int .i64)] [.val .str] [.str])) := by kernel_rfl

theorem TB20 (self : Int → Option ((List UInt8))) (hs : Told Tryd.prog 20 [.int .i64] [.str] (fun x => self x)) (n : Nat) : Told Tryd.prog 20 [.int .i64] [.str] (fun x => F20B self n x) := by
  rintro a0 r h
  exact calls_plain (fn_sound lay0_ok mixed (rvs := [.tmp 2]) (by kernel_rfl : Tryd.prog.funcs[20]? = some Tryd.f20) (by kernel_rfl : Tryd.f20.body = some c20) (by kernel_rfl) (by kernel_rfl) (by kernel_rfl) (GO20 self hs n) noInl_ok (K20 self n) ((E20 self n a0).symm.trans h)) rfl rfl rfl rfl

theorem T20 : ∀ n : Nat, Told Tryd.prog 20 [.int .i64] [.str] (fun x => F20 n x)
  | 0 => fun _ _ h => by cases h
  | n + 1 => TB20 (F20 n) (T20 n) n

/-! ### orthoepy/orthoepyref14.Name -/

def F18 (n : Nat) (a0 : Int) : Option ((List UInt8)) :=
  (bif (decide (a0 < 0)) then
    some ([] : List UInt8)
  else
    (bif (decide (a0 > 19)) then
      some ([] : List UInt8)
    else
      (bif (inB a0 20 && true) then
      some ((([([111, 107] : List UInt8), ([97, 114, 103, 117, 109, 101, 110, 116] : List UInt8), ([116, 101, 120, 116] : List UInt8), ([101, 110, 100] : List UInt8), ([117, 116, 102, 56] : List UInt8), ([115, 117, 114, 114, 111, 103, 97, 116, 101] : List UInt8), ([110, 111, 110, 99, 104, 97, 114, 97, 99, 116, 101, 114] : List UInt8), ([102, 114, 97, 99, 116, 105, 111, 110] : List UInt8), ([114, 97, 110, 103, 101] : List UInt8), ([116, 119, 105, 99, 101] : List UInt8), ([98, 121, 116, 101, 115] : List UInt8), ([100, 101, 112, 116, 104] : List UInt8), ([110, 111, 100, 101, 115] : List UInt8), ([107, 101, 121] : List UInt8), ([108, 111, 110, 103] : List UInt8), ([112, 111, 105, 110, 116, 101, 114] : List UInt8), ([110, 111, 110, 101] : List UInt8), ([115, 116, 97, 116, 101] : List UInt8), ([98, 105, 103] : List UInt8), ([108, 105, 110, 101] : List UInt8)] : List (List UInt8))).getD (Int.toNat a0) (Ty.dflt .str))
      else none)))

noncomputable def c18 : Code := Tryd.f18.body.getD .skip

noncomputable def G18 (n : Nat) : Ctx (Res [.str]) := noFns

theorem GO18 (n : Nat) : CtxOK Tryd.prog lay0 (G18 n) := noFns_ok

noncomputable def P18 (n : Nat) : Pl (Res [.str]) :=
  .leaf

theorem K18 (n : Nat) : PlOK (G18 n) noInl lay0 14 (P18 n) c18 (fnK lay0 [.tmp 2] [.val (.int .i64)] [.val .str] [.str]) :=
  trivial

theorem E18 (n : Nat) (a0 : Int) : F18 n a0 = fnE [.val (.int .i64)] (argDs [.int .i64] (a0)) (fun st => ev (G18 n) noInl lay0 14 c18 (P18 n) st (fnK lay0 [.tmp 2] [.val (.int .i64)] [.val .str] [.str])) := by kernel_rfl

theorem T18 (n : Nat) : Told Tryd.prog 18 [.int .i64] [.str] (fun x => F18 n x) := by
  rintro a0 r h
  exact calls_plain (fn_sound lay0_ok mixed (rvs := [.tmp 2]) (by kernel_rfl : Tryd.prog.funcs[18]? = some Tryd.f18) (by kernel_rfl : Tryd.f18.body = some c18) (by kernel_rfl) (by kernel_rfl) (by kernel_rfl) (GO18 n) noInl_ok (K18 n) ((E18 n a0).symm.trans h)) rfl rfl rfl rfl

/-! ### orthoepy/orthoepyref14.New -/

def F9 (n : Nat) (a0 : Int) (a1 : Int) : Option ((Bool × ((Int × (Int × (Int × Unit))) × (List UInt8 × Unit)))) :=
  (bif (a0 == 0) then
    some (false, ((0, (0, (0, ()))), (([] : List UInt8), ())))
  else
    (match F18 n a0 with
    | some r1 =>
    (bif decide (r1.length + ([32] : List UInt8).length ≤ 9223372036854775807) then
    (match F20 n a1 with
    | some r2 =>
    (bif decide ((r1 ++ ([32] : List UInt8)).length + r2.length ≤ 9223372036854775807) then
    some (true, ((a0, (a1, (0, ()))), (((r1 ++ ([32] : List UInt8)) ++ r2), ())))
    else none)
    | none => none)
    else none)
    | none => none))

noncomputable def c9 : Code := Tryd.f9.body.getD .skip

noncomputable def G9 (n : Nat) : Ctx (Res [.pair .bool (.pair (.pair (.int .i64) (.pair (.int .i64) (.pair (.int .i64) .unit))) (.pair .str .unit))]) := ent 18 [.int .i64] [.str] (fun x => F18 n x) (ent 20 [.int .i64] [.str] (fun x => F20 n x) (noFns))

theorem GO9 (n : Nat) : CtxOK Tryd.prog lay0 (G9 n) := ent_ok (T18 n) (fun _ _ h => h) (ent_ok (T20 n) (fun _ _ h => h) (noFns_ok))

noncomputable def P9 (n : Nat) : Pl (Res [.pair .bool (.pair (.pair (.int .i64) (.pair (.int .i64) (.pair (.int .i64) .unit))) (.pair .str .unit))]) :=
  .leaf

theorem K9 (n : Nat) : PlOK (G9 n) noInl lay0 18 (P9 n) c9 (fnK lay0 [.cell 4 32] [.val (.int .i64), .val (.int .i64)] [.val (.pair .bool (.pair (.pair (.int .i64) (.pair (.int .i64) (.pair (.int .i64) .unit))) (.pair .str .unit)))] [.pair .bool (.pair (.pair (.int .i64) (.pair (.int .i64) (.pair (.int .i64) .unit))) (.pair .str .unit))]) :=
  trivial

theorem E9 (n : Nat) (a0 : Int) (a1 : Int) : F9 n a0 a1 = fnE [.val (.int .i64), .val (.int .i64)] (argDs [.int .i64, .int .i64] (a0, a1)) (fun st => ev (G9 n) noInl lay0 18 c9 (P9 n) st (fnK lay0 [.cell 4 32] [.val (.int .i64), .val (.int .i64)] [.val (.pair .bool (.pair (.pair (.int .i64) (.pair (.int .i64) (.pair (.int .i64) .unit))) (.pair .str .unit)))] [.pair .bool (.pair (.pair (.int .i64) (.pair (.int .i64) (.pair (.int .i64) .unit))) (.pair .str .unit))])) := by kernel_rfl

theorem T9 (n : Nat) : Told Tryd.prog 9 [.int .i64, .int .i64] [.pair .bool (.pair (.pair (.int .i64) (.pair (.int .i64) (.pair (.int .i64) .unit))) (.pair .str .unit))] (fun x => F9 n x.1 x.2) := by
  rintro ⟨a0, a1⟩ r h
  exact calls_plain (fn_sound lay0_ok mixed (rvs := [.cell 4 32]) (by kernel_rfl : Tryd.prog.funcs[9]? = some Tryd.f9) (by kernel_rfl : Tryd.f9.body = some c9) (by kernel_rfl) (by kernel_rfl) (by kernel_rfl) (GO9 n) noInl_ok (K9 n) ((E9 n a0 a1).symm.trans h)) rfl rfl rfl rfl

/-! ### orthoepy/orthoepyref14.Wrap -/

def F11 (n : Nat) (a0 : (Bool × ((Int × (Int × (Int × Unit))) × (List UInt8 × Unit)))) (a1 : List UInt8) : Option ((Bool × ((Int × (Int × (Int × Unit))) × (List UInt8 × Unit)))) :=
  (bif a0.1 then
    (bif decide (a1.length + ([58, 32] : List UInt8).length ≤ 9223372036854775807) then
    (bif decide ((a1 ++ ([58, 32] : List UInt8)).length + a0.2.2.1.length ≤ 9223372036854775807) then
    some (a0.1, (a0.2.1, (((a1 ++ ([58, 32] : List UInt8)) ++ a0.2.2.1), ())))
    else none)
    else none)
  else
    some a0)

noncomputable def c11 : Code := Tryd.f11.body.getD .skip

noncomputable def G11 (n : Nat) : Ctx (Res [.pair .bool (.pair (.pair (.int .i64) (.pair (.int .i64) (.pair (.int .i64) .unit))) (.pair .str .unit))]) := noFns

theorem GO11 (n : Nat) : CtxOK Tryd.prog lay0 (G11 n) := noFns_ok

noncomputable def P11 (n : Nat) : Pl (Res [.pair .bool (.pair (.pair (.int .i64) (.pair (.int .i64) (.pair (.int .i64) .unit))) (.pair .str .unit))]) :=
  .leaf

theorem K11 (n : Nat) : PlOK (G11 n) noInl lay0 14 (P11 n) c11 (fnK lay0 [.cell 4 32] [.val (.pair .bool (.pair (.pair (.int .i64) (.pair (.int .i64) (.pair (.int .i64) .unit))) (.pair .str .unit))), .val .str] [.val (.pair .bool (.pair (.pair (.int .i64) (.pair (.int .i64) (.pair (.int .i64) .unit))) (.pair .str .unit)))] [.pair .bool (.pair (.pair (.int .i64) (.pair (.int .i64) (.pair (.int .i64) .unit))) (.pair .str .unit))]) :=
  trivial

theorem E11 (n : Nat) (a0 : (Bool × ((Int × (Int × (Int × Unit))) × (List UInt8 × Unit)))) (a1 : List UInt8) : F11 n a0 a1 = fnE [.val (.pair .bool (.pair (.pair (.int .i64) (.pair (.int .i64) (.pair (.int .i64) .unit))) (.pair .str .unit))), .val .str] (argDs [.pair .bool (.pair (.pair (.int .i64) (.pair (.int .i64) (.pair (.int .i64) .unit))) (.pair .str .unit)), .str] (a0, a1)) (fun st => ev (G11 n) noInl lay0 14 c11 (P11 n) st (fnK lay0 [.cell 4 32] [.val (.pair .bool (.pair (.pair (.int .i64) (.pair (.int .i64) (.pair (.int .i64) .unit))) (.pair .str .unit))), .val .str] [.val (.pair .bool (.pair (.pair (.int .i64) (.pair (.int .i64) (.pair (.int .i64) .unit))) (.pair .str .unit)))] [.pair .bool (.pair (.pair (.int .i64) (.pair (.int .i64) (.pair (.int .i64) .unit))) (.pair .str .unit))])) := by kernel_rfl

theorem T11 (n : Nat) : Told Tryd.prog 11 [.pair .bool (.pair (.pair (.int .i64) (.pair (.int .i64) (.pair (.int .i64) .unit))) (.pair .str .unit)), .str] [.pair .bool (.pair (.pair (.int .i64) (.pair (.int .i64) (.pair (.int .i64) .unit))) (.pair .str .unit))] (fun x => F11 n x.1 x.2) := by
  rintro ⟨a0, a1⟩ r h
  exact calls_plain (fn_sound lay0_ok mixed (rvs := [.cell 4 32]) (by kernel_rfl : Tryd.prog.funcs[11]? = some Tryd.f11) (by kernel_rfl : Tryd.f11.body = some c11) (by kernel_rfl) (by kernel_rfl) (by kernel_rfl) (GO11 n) noInl_ok (K11 n) ((E11 n a0 a1).symm.trans h)) rfl rfl rfl rfl

/-! ### orthoepy/orthoepyref14.Input -/

def F13 (n : Nat) (a0 : (Bool × ((Int × (Int × (Int × Unit))) × (List UInt8 × Unit)))) (a1 : Int) : Option ((Bool × ((Int × (Int × (Int × Unit))) × (List UInt8 × Unit)))) :=
  (bif a0.1 then
    some (a0.1, ((a0.2.1.1, (a0.2.1.2.1, (a1, ()))), a0.2.2))
  else
    some a0)

noncomputable def c13 : Code := Tryd.f13.body.getD .skip

noncomputable def G13 (n : Nat) : Ctx (Res [.pair .bool (.pair (.pair (.int .i64) (.pair (.int .i64) (.pair (.int .i64) .unit))) (.pair .str .unit))]) := noFns

theorem GO13 (n : Nat) : CtxOK Tryd.prog lay0 (G13 n) := noFns_ok

noncomputable def P13 (n : Nat) : Pl (Res [.pair .bool (.pair (.pair (.int .i64) (.pair (.int .i64) (.pair (.int .i64) .unit))) (.pair .str .unit))]) :=
  .leaf

theorem K13 (n : Nat) : PlOK (G13 n) noInl lay0 11 (P13 n) c13 (fnK lay0 [.cell 4 32] [.val (.pair .bool (.pair (.pair (.int .i64) (.pair (.int .i64) (.pair (.int .i64) .unit))) (.pair .str .unit))), .val (.int .i64)] [.val (.pair .bool (.pair (.pair (.int .i64) (.pair (.int .i64) (.pair (.int .i64) .unit))) (.pair .str .unit)))] [.pair .bool (.pair (.pair (.int .i64) (.pair (.int .i64) (.pair (.int .i64) .unit))) (.pair .str .unit))]) :=
  trivial

theorem E13 (n : Nat) (a0 : (Bool × ((Int × (Int × (Int × Unit))) × (List UInt8 × Unit)))) (a1 : Int) : F13 n a0 a1 = fnE [.val (.pair .bool (.pair (.pair (.int .i64) (.pair (.int .i64) (.pair (.int .i64) .unit))) (.pair .str .unit))), .val (.int .i64)] (argDs [.pair .bool (.pair (.pair (.int .i64) (.pair (.int .i64) (.pair (.int .i64) .unit))) (.pair .str .unit)), .int .i64] (a0, a1)) (fun st => ev (G13 n) noInl lay0 11 c13 (P13 n) st (fnK lay0 [.cell 4 32] [.val (.pair .bool (.pair (.pair (.int .i64) (.pair (.int .i64) (.pair (.int .i64) .unit))) (.pair .str .unit))), .val (.int .i64)] [.val (.pair .bool (.pair (.pair (.int .i64) (.pair (.int .i64) (.pair (.int .i64) .unit))) (.pair .str .unit)))] [.pair .bool (.pair (.pair (.int .i64) (.pair (.int .i64) (.pair (.int .i64) .unit))) (.pair .str .unit))])) := by kernel_rfl

theorem T13 (n : Nat) : Told Tryd.prog 13 [.pair .bool (.pair (.pair (.int .i64) (.pair (.int .i64) (.pair (.int .i64) .unit))) (.pair .str .unit)), .int .i64] [.pair .bool (.pair (.pair (.int .i64) (.pair (.int .i64) (.pair (.int .i64) .unit))) (.pair .str .unit))] (fun x => F13 n x.1 x.2) := by
  rintro ⟨a0, a1⟩ r h
  exact calls_plain (fn_sound lay0_ok mixed (rvs := [.cell 4 32]) (by kernel_rfl : Tryd.prog.funcs[13]? = some Tryd.f13) (by kernel_rfl : Tryd.f13.body = some c13) (by kernel_rfl) (by kernel_rfl) (by kernel_rfl) (GO13 n) noInl_ok (K13 n) ((E13 n a0 a1).symm.trans h)) rfl rfl rfl rfl

/-! ### orthoepy/orthoepylaw00.Place -/

def F19 (n : Nat) (a0 : Int) (a1 : Int) : Option (Int) :=
  (bif (!(a1 == 0)) then
  (bif (decide ((Int.tmod a0 a1) < 0)) then
    some (IntKind.wrap .i64 ((Int.tmod a0 a1) + a1))
  else
    some (Int.tmod a0 a1))
  else none)

noncomputable def c19 : Code := Tryd.f19.body.getD .skip

noncomputable def G19 (n : Nat) : Ctx (Res [.int .i64]) := noFns

theorem GO19 (n : Nat) : CtxOK Tryd.prog lay0 (G19 n) := noFns_ok

noncomputable def P19 (n : Nat) : Pl (Res [.int .i64]) :=
  .leaf

theorem K19 (n : Nat) : PlOK (G19 n) noInl lay0 15 (P19 n) c19 (fnK lay0 [.tmp 4] [.val (.int .i64), .val (.int .i64)] [.val (.int .i64)] [.int .i64]) :=
  trivial

theorem E19 (n : Nat) (a0 : Int) (a1 : Int) : F19 n a0 a1 = fnE [.val (.int .i64), .val (.int .i64)] (argDs [.int .i64, .int .i64] (a0, a1)) (fun st => ev (G19 n) noInl lay0 15 c19 (P19 n) st (fnK lay0 [.tmp 4] [.val (.int .i64), .val (.int .i64)] [.val (.int .i64)] [.int .i64])) := by kernel_rfl

theorem T19 (n : Nat) : Told Tryd.prog 19 [.int .i64, .int .i64] [.int .i64] (fun x => F19 n x.1 x.2) := by
  rintro ⟨a0, a1⟩ r h
  exact calls_plain (fn_sound lay0_ok mixed (rvs := [.tmp 4]) (by kernel_rfl : Tryd.prog.funcs[19]? = some Tryd.f19) (by kernel_rfl : Tryd.f19.body = some c19) (by kernel_rfl) (by kernel_rfl) (by kernel_rfl) (GO19 n) noInl_ok (K19 n) ((E19 n a0 a1).symm.trans h)) rfl rfl rfl rfl

end Go.Proofs.YtllhidkadhoipaaDoor.Ab
