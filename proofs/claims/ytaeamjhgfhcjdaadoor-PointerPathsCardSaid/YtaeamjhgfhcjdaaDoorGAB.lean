/- Functions of the program as Lean functions. Printed by wip/gen/gen3.py. -/
import Derived.Test.YtaeamjhgfhcjdaaDoorGK
import Derived.Test.YtaeamjhgfhcjdaaDoorGA2
namespace Go.Proofs.YtaeamjhgfhcjdaaDoor.Ab
open Go Go.RowKit Go.Proofs
set_option maxRecDepth 100000
set_option maxHeartbeats 4000000
set_option linter.unusedVariables false

/-! ### orthoepy/pointer.Eval -/

def F28l0F (n : Nat) (rF28l0 : Option (List ((Int × (Bool × (Int × (List UInt8 × (List UInt8 × (Int × (Int × Unit))))))) × (Int × (Int × Unit))) × Unit) → List (List UInt8) → Int → List (List UInt8) → Int → Int → Option (Int × Int)) (t0 : Option (List ((Int × (Bool × (Int × (List UInt8 × (List UInt8 × (Int × (Int × Unit))))))) × (Int × (Int × Unit))) × Unit)) (t1 : List (List UInt8)) (t6 : Int) (t18 : List (List UInt8)) (t19 : Int) (t20 : Int) : Option (Int × Int) :=
  (bif (decide (t20 < t19)) then
    (bif inB t20 (t18).length then
    (match F45 n t0 t6 with
    | some r2 =>
    (bif (r2.1.1 == 6) then
      (match F46 n t0 t6 ((t18).getD (Int.toNat t20) (Ty.dflt .str)) with
      | some r3 =>
      (bif (decide (r3 < 0)) then
        some ((-1), t20)
      else
        rF28l0 t0 t1 r3 t18 t19 (IntKind.wrap .i64 (t20 + 1)))
      | none => none)
    else
      (bif (r2.1.1 == 5) then
        (match F47 n t0 t6 with
        | some r4 =>
        (match F15 n ((t18).getD (Int.toNat t20) (Ty.dflt .str)) with
        | some r5 =>
        (bif r5.2 then
          (bif (decide (r5.1 < ((r4).length : Int))) then
            (bif inB r5.1 (r4).length then
            (bif (decide (((r4).getD (Int.toNat r5.1) (Ty.dflt (.int .i64))) < 0)) then
              some ((-1), t20)
            else
              rF28l0 t0 t1 ((r4).getD (Int.toNat r5.1) (Ty.dflt (.int .i64))) t18 t19 (IntKind.wrap .i64 (t20 + 1)))
            else none)
          else
            (bif (decide ((-1) < 0)) then
              some ((-1), t20)
            else
              rF28l0 t0 t1 (-1) t18 t19 (IntKind.wrap .i64 (t20 + 1))))
        else
          (bif (decide ((-1) < 0)) then
            some ((-1), t20)
          else
            rF28l0 t0 t1 (-1) t18 t19 (IntKind.wrap .i64 (t20 + 1))))
        | none => none)
        | none => none)
      else
        (bif (decide ((-1) < 0)) then
          some ((-1), t20)
        else
          rF28l0 t0 t1 (-1) t18 t19 (IntKind.wrap .i64 (t20 + 1)))))
    | none => none)
    else none)
  else
    some (t6, ((t1).length : Int)))
def F28l0 (n : Nat) : Nat → Option (List ((Int × (Bool × (Int × (List UInt8 × (List UInt8 × (Int × (Int × Unit))))))) × (Int × (Int × Unit))) × Unit) → List (List UInt8) → Int → List (List UInt8) → Int → Int → Option (Int × Int)
  | 0, _, _, _, _, _, _ => none
  | m + 1, t0, t1, t6, t18, t19, t20 => F28l0F n (F28l0 n m) t0 t1 t6 t18 t19 t20

def F28 (n : Nat) (a0 : Option (List ((Int × (Bool × (Int × (List UInt8 × (List UInt8 × (Int × (Int × Unit))))))) × (Int × (Int × Unit))) × Unit)) (a1 : List (List UInt8)) : Option (Int × Int) :=
  (match F32 n a0 with
  | some r1 =>
  (bif (r1 == 0) then
    some ((-1), 0)
  else
    F28l0 n n a0 a1 0 a1 ((a1).length : Int) 0)
  | none => none)

noncomputable def c28 : Code := Tryd.f28.body.getD .skip

noncomputable def G28 (n : Nat) : Ctx (Res [.int .i64, .int .i64]) := ent 15 [.str] [.int .i64, .bool] (fun x => F15 n x) (ent 32 [.ref (.pair (.slice (.pair (.pair (.int .i64) (.pair .bool (.pair (.int .i64) (.pair .str (.pair .str (.pair (.int .i64) (.pair (.int .i64) .unit))))))) (.pair (.int .i64) (.pair (.int .i64) .unit)))) .unit)] [.int .i64] (fun x => F32 n x) (ent 45 [.ref (.pair (.slice (.pair (.pair (.int .i64) (.pair .bool (.pair (.int .i64) (.pair .str (.pair .str (.pair (.int .i64) (.pair (.int .i64) .unit))))))) (.pair (.int .i64) (.pair (.int .i64) .unit)))) .unit), .int .i64] [.pair (.int .i64) (.pair .bool (.pair (.int .i64) (.pair .str (.pair .str (.pair (.int .i64) (.pair (.int .i64) .unit)))))), .bool] (fun x => F45 n x.1 x.2) (ent 46 [.ref (.pair (.slice (.pair (.pair (.int .i64) (.pair .bool (.pair (.int .i64) (.pair .str (.pair .str (.pair (.int .i64) (.pair (.int .i64) .unit))))))) (.pair (.int .i64) (.pair (.int .i64) .unit)))) .unit), .int .i64, .str] [.int .i64] (fun x => F46 n x.1 x.2.1 x.2.2) (ent 47 [.ref (.pair (.slice (.pair (.pair (.int .i64) (.pair .bool (.pair (.int .i64) (.pair .str (.pair .str (.pair (.int .i64) (.pair (.int .i64) .unit))))))) (.pair (.int .i64) (.pair (.int .i64) .unit)))) .unit), .int .i64] [.slice (.int .i64)] (fun x => F47 n x.1 x.2) (noFns)))))

theorem GO28 (n : Nat) : CtxOK Tryd.prog lay0 (G28 n) := ent_ok (T15 n) (fun _ _ h => h) (ent_ok (T32 n) (fun _ _ h => h) (ent_ok (T45 n) (fun _ _ h => h) (ent_ok (T46 n) (fun _ _ h => h) (ent_ok (T47 n) (fun _ _ h => h) (noFns_ok)))))

noncomputable def P28 (n : Nat) : Pl (Res [.int .i64, .int .i64]) :=
  (.two .leaf (.two .leaf (.two .leaf (.two (.two .leaf (.one (.loop [.val (.tmp 0) (.ref (.pair (.slice (.pair (.pair (.int .i64) (.pair .bool (.pair (.int .i64) (.pair .str (.pair .str (.pair (.int .i64) (.pair (.int .i64) .unit))))))) (.pair (.int .i64) (.pair (.int .i64) .unit)))) .unit)), .val (.tmp 1) (.slice .str), .val (.tmp 6) (.int .i64), .val (.tmp 18) (.slice .str), .val (.tmp 19) (.int .i64), .val (.tmp 20) (.int .i64)] n (fun m x => F28l0 n m x.1 x.2.1 x.2.2.1 x.2.2.2.1 x.2.2.2.2.1 x.2.2.2.2.2.1) (fun _ => .leaf)))) .leaf))))

theorem K28 (n : Nat) : PlOK (G28 n) noInl lay0 68 (P28 n) c28 (fnK lay0 [.tmp 4, .tmp 5] [.val (.ref (.pair (.slice (.pair (.pair (.int .i64) (.pair .bool (.pair (.int .i64) (.pair .str (.pair .str (.pair (.int .i64) (.pair (.int .i64) .unit))))))) (.pair (.int .i64) (.pair (.int .i64) .unit)))) .unit)), .val (.slice .str)] [.val (.int .i64), .val (.int .i64)] [.int .i64, .int .i64]) :=
  ⟨trivial, ⟨trivial, ⟨trivial, ⟨⟨trivial, ⟨by kernel_rfl, fun x => by kernel_rfl, fun m => ⟨fun x => by kernel_rfl, trivial⟩⟩⟩, trivial⟩⟩⟩⟩

theorem E28 (n : Nat) (a0 : Option (List ((Int × (Bool × (Int × (List UInt8 × (List UInt8 × (Int × (Int × Unit))))))) × (Int × (Int × Unit))) × Unit)) (a1 : List (List UInt8)) : F28 n a0 a1 = fnE [.val (.ref (.pair (.slice (.pair (.pair (.int .i64) (.pair .bool (.pair (.int .i64) (.pair .str (.pair .str (.pair (.int .i64) (.pair (.int .i64) .unit))))))) (.pair (.int .i64) (.pair (.int .i64) .unit)))) .unit)), .val (.slice .str)] (argDs [.ref (.pair (.slice (.pair (.pair (.int .i64) (.pair .bool (.pair (.int .i64) (.pair .str (.pair .str (.pair (.int .i64) (.pair (.int .i64) .unit))))))) (.pair (.int .i64) (.pair (.int .i64) .unit)))) .unit), .slice .str] (a0, a1)) (fun st => ev (G28 n) noInl lay0 68 c28 (P28 n) st (fnK lay0 [.tmp 4, .tmp 5] [.val (.ref (.pair (.slice (.pair (.pair (.int .i64) (.pair .bool (.pair (.int .i64) (.pair .str (.pair .str (.pair (.int .i64) (.pair (.int .i64) .unit))))))) (.pair (.int .i64) (.pair (.int .i64) .unit)))) .unit)), .val (.slice .str)] [.val (.int .i64), .val (.int .i64)] [.int .i64, .int .i64])) := by kernel_rfl

theorem T28 (n : Nat) : Told Tryd.prog 28 [.ref (.pair (.slice (.pair (.pair (.int .i64) (.pair .bool (.pair (.int .i64) (.pair .str (.pair .str (.pair (.int .i64) (.pair (.int .i64) .unit))))))) (.pair (.int .i64) (.pair (.int .i64) .unit)))) .unit), .slice .str] [.int .i64, .int .i64] (fun x => F28 n x.1 x.2) := by
  rintro ⟨a0, a1⟩ r h
  exact calls_plain (fn_sound lay0_ok mixed (rvs := [.tmp 4, .tmp 5]) (by kernel_rfl : Tryd.prog.funcs[28]? = some Tryd.f28) (by kernel_rfl : Tryd.f28.body = some c28) (by kernel_rfl) (by kernel_rfl) (by kernel_rfl) (GO28 n) noInl_ok (K28 n) ((E28 n a0 a1).symm.trans h)) rfl rfl rfl rfl

/-! ### orthoepy/orthoepylaw25.path -/

def F33l1F (n : Nat) (rF33l0 : Option (List ((Int × (Bool × (Int × (List UInt8 × (List UInt8 × (Int × (Int × Unit))))))) × (Int × (Int × Unit))) × Unit) → Int → List (List UInt8) → Int → Option ((List (List UInt8)))) (rF33l1 : Option (List ((Int × (Bool × (Int × (List UInt8 × (List UInt8 × (Int × (Int × Unit))))))) × (Int × (Int × Unit))) × Unit) → Int → List (List UInt8) → Int → Int → List UInt8 → List Int → Int → Int → Bool → Int → List UInt8 → List UInt8 → Int → Int → Option ((List (List UInt8)))) (t0 : Option (List ((Int × (Bool × (Int × (List UInt8 × (List UInt8 × (Int × (Int × Unit))))))) × (Int × (Int × Unit))) × Unit)) (t1 : Int) (t5 : List (List UInt8)) (t6 : Int) (t7 : Int) (t12 : List UInt8) (t13 : List Int) (t14 : Int) (b10_0 : Int) (b10_1 : Bool) (b10_2 : Int) (b10_3 : List UInt8) (b10_4 : List UInt8) (b10_5 : Int) (b10_6 : Int) : Option ((List (List UInt8))) :=
  (bif (decide (t14 < ((t13).length : Int))) then
    (bif (b10_0 == 5) then
      (bif inB t14 (t13).length then
      (bif (((t13).getD (Int.toNat t14) (Ty.dflt (.int .i64))) == t1) then
        (match F23 n t14 with
        | some r6 =>
        rF33l1 t0 t1 t5 t6 t7 r6 t13 (IntKind.wrap .i64 (t14 + 1)) b10_0 b10_1 b10_2 b10_3 b10_4 b10_5 b10_6
        | none => none)
      else
        rF33l1 t0 t1 t5 t6 t7 t12 t13 (IntKind.wrap .i64 (t14 + 1)) b10_0 b10_1 b10_2 b10_3 b10_4 b10_5 b10_6)
      else none)
    else
      (bif (decide (((([t12] : List (List UInt8))).length + (t5).length) * 16 ≤ maxRoom) && decide ((([t12] : List (List UInt8))).length + (t5).length ≤ maxRoom)) then
      rF33l0 t0 t7 (([t12] : List (List UInt8)) ++ t5) (IntKind.wrap .i64 (t6 + 1))
      else none))
  else
    (bif (decide (((([t12] : List (List UInt8))).length + (t5).length) * 16 ≤ maxRoom) && decide ((([t12] : List (List UInt8))).length + (t5).length ≤ maxRoom)) then
    rF33l0 t0 t7 (([t12] : List (List UInt8)) ++ t5) (IntKind.wrap .i64 (t6 + 1))
    else none))
def F33l1 (n : Nat) (rF33l0 : Option (List ((Int × (Bool × (Int × (List UInt8 × (List UInt8 × (Int × (Int × Unit))))))) × (Int × (Int × Unit))) × Unit) → Int → List (List UInt8) → Int → Option ((List (List UInt8)))) : Nat → Option (List ((Int × (Bool × (Int × (List UInt8 × (List UInt8 × (Int × (Int × Unit))))))) × (Int × (Int × Unit))) × Unit) → Int → List (List UInt8) → Int → Int → List UInt8 → List Int → Int → Int → Bool → Int → List UInt8 → List UInt8 → Int → Int → Option ((List (List UInt8)))
  | 0, _, _, _, _, _, _, _, _, _, _, _, _, _, _, _ => none
  | m + 1, t0, t1, t5, t6, t7, t12, t13, t14, b10_0, b10_1, b10_2, b10_3, b10_4, b10_5, b10_6 => F33l1F n rF33l0 (F33l1 n rF33l0 m) t0 t1 t5 t6 t7 t12 t13 t14 b10_0 b10_1 b10_2 b10_3 b10_4 b10_5 b10_6

def F33l0F (n : Nat) (rF33l0 : Option (List ((Int × (Bool × (Int × (List UInt8 × (List UInt8 × (Int × (Int × Unit))))))) × (Int × (Int × Unit))) × Unit) → Int → List (List UInt8) → Int → Option ((List (List UInt8)))) (t0 : Option (List ((Int × (Bool × (Int × (List UInt8 × (List UInt8 × (Int × (Int × Unit))))))) × (Int × (Int × Unit))) × Unit)) (t1 : Int) (t5 : List (List UInt8)) (t6 : Int) : Option ((List (List UInt8))) :=
  (bif (decide (t6 < 20)) then
    (match F34 n t0 t1 with
    | some r1 =>
    (bif (decide (r1 ≥ 0)) then
      (match F34 n t0 t1 with
      | some r2 =>
      (match F45 n t0 t1 with
      | some r3 =>
      (match F45 n t0 r2 with
      | some r4 =>
      (match F47 n t0 r2 with
      | some r5 =>
      F33l1 n rF33l0 n t0 t1 t5 t6 r2 r3.1.2.2.2.2.1 r5 0 r4.1.1 r4.1.2.1 r4.1.2.2.1 r4.1.2.2.2.1 r4.1.2.2.2.2.1 r4.1.2.2.2.2.2.1 r4.1.2.2.2.2.2.2.1
      | none => none)
      | none => none)
      | none => none)
      | none => none)
    else
      some t5)
    | none => none)
  else
    some t5)
def F33l0 (n : Nat) : Nat → Option (List ((Int × (Bool × (Int × (List UInt8 × (List UInt8 × (Int × (Int × Unit))))))) × (Int × (Int × Unit))) × Unit) → Int → List (List UInt8) → Int → Option ((List (List UInt8)))
  | 0, _, _, _, _ => none
  | m + 1, t0, t1, t5, t6 => F33l0F n (F33l0 n m) t0 t1 t5 t6

def F33 (n : Nat) (a0 : Option (List ((Int × (Bool × (Int × (List UInt8 × (List UInt8 × (Int × (Int × Unit))))))) × (Int × (Int × Unit))) × Unit)) (a1 : Int) : Option ((List (List UInt8))) :=
  F33l0 n n a0 a1 ([] : List (List UInt8)) 0

noncomputable def c33 : Code := Tryd.f33.body.getD .skip

noncomputable def G33 (n : Nat) : Ctx (Res [.slice .str]) := ent 23 [.int .i64] [.str] (fun x => F23 n x) (ent 34 [.ref (.pair (.slice (.pair (.pair (.int .i64) (.pair .bool (.pair (.int .i64) (.pair .str (.pair .str (.pair (.int .i64) (.pair (.int .i64) .unit))))))) (.pair (.int .i64) (.pair (.int .i64) .unit)))) .unit), .int .i64] [.int .i64] (fun x => F34 n x.1 x.2) (ent 45 [.ref (.pair (.slice (.pair (.pair (.int .i64) (.pair .bool (.pair (.int .i64) (.pair .str (.pair .str (.pair (.int .i64) (.pair (.int .i64) .unit))))))) (.pair (.int .i64) (.pair (.int .i64) .unit)))) .unit), .int .i64] [.pair (.int .i64) (.pair .bool (.pair (.int .i64) (.pair .str (.pair .str (.pair (.int .i64) (.pair (.int .i64) .unit)))))), .bool] (fun x => F45 n x.1 x.2) (ent 47 [.ref (.pair (.slice (.pair (.pair (.int .i64) (.pair .bool (.pair (.int .i64) (.pair .str (.pair .str (.pair (.int .i64) (.pair (.int .i64) .unit))))))) (.pair (.int .i64) (.pair (.int .i64) .unit)))) .unit), .int .i64] [.slice (.int .i64)] (fun x => F47 n x.1 x.2) (noFns))))

theorem GO33 (n : Nat) : CtxOK Tryd.prog lay0 (G33 n) := ent_ok (T23 n) (fun _ _ h => h) (ent_ok (T34 n) (fun _ _ h => h) (ent_ok (T45 n) (fun _ _ h => h) (ent_ok (T47 n) (fun _ _ h => h) (noFns_ok))))

noncomputable def P33 (n : Nat) : Pl (Res [.slice .str]) :=
  (.two .leaf (.two .leaf (.two (.two .leaf (.one (.loop [.val (.tmp 0) (.ref (.pair (.slice (.pair (.pair (.int .i64) (.pair .bool (.pair (.int .i64) (.pair .str (.pair .str (.pair (.int .i64) (.pair (.int .i64) .unit))))))) (.pair (.int .i64) (.pair (.int .i64) .unit)))) .unit)), .val (.tmp 1) (.int .i64), .vec (.tmp 5) 20000000 9 .str, .val (.tmp 6) (.int .i64)] n (fun m x => F33l0 n m x.1 x.2.1 x.2.2.1 x.2.2.2.1) (fun r => let rF33l0 : Option (List ((Int × (Bool × (Int × (List UInt8 × (List UInt8 × (Int × (Int × Unit))))))) × (Int × (Int × Unit))) × Unit) → Int → List (List UInt8) → Int → Option ((List (List UInt8))) := (fun y0 y1 y2 y3 => r (y0, y1, y2, y3, ())); (.two .leaf (.two (.one (.two .leaf (.two .leaf (.two .leaf (.two .leaf (.two .leaf (.two (.two .leaf (.one (.loop [.val (.tmp 0) (.ref (.pair (.slice (.pair (.pair (.int .i64) (.pair .bool (.pair (.int .i64) (.pair .str (.pair .str (.pair (.int .i64) (.pair (.int .i64) .unit))))))) (.pair (.int .i64) (.pair (.int .i64) .unit)))) .unit)), .val (.tmp 1) (.int .i64), .vec (.tmp 5) 20000000 9 .str, .val (.tmp 6) (.int .i64), .val (.tmp 7) (.int .i64), .ptr (.tmp 10) 10 0, .val (.tmp 12) .str, .val (.tmp 13) (.slice (.int .i64)), .val (.tmp 14) (.int .i64), .val (.cell 10 0) (.int .i64), .val (.cell 10 1) .bool, .val (.cell 10 2) (.int .i64), .val (.cell 10 3) .str, .val (.cell 10 4) .str, .val (.cell 10 5) (.int .i64), .val (.cell 10 6) (.int .i64), .box 10 7] n (fun m x => F33l1 n rF33l0 m x.1 x.2.1 x.2.2.1 x.2.2.2.1 x.2.2.2.2.1 x.2.2.2.2.2.2.1 x.2.2.2.2.2.2.2.1 x.2.2.2.2.2.2.2.2.1 x.2.2.2.2.2.2.2.2.2.1 x.2.2.2.2.2.2.2.2.2.2.1 x.2.2.2.2.2.2.2.2.2.2.2.1 x.2.2.2.2.2.2.2.2.2.2.2.2.1 x.2.2.2.2.2.2.2.2.2.2.2.2.2.1 x.2.2.2.2.2.2.2.2.2.2.2.2.2.2.1 x.2.2.2.2.2.2.2.2.2.2.2.2.2.2.2.1) (fun _ => .leaf)))) .leaf))))))) .leaf)))))) .leaf)))

theorem K33 (n : Nat) : PlOK (G33 n) noInl lay0 70 (P33 n) c33 (fnK lay0 [.tmp 4] [.val (.ref (.pair (.slice (.pair (.pair (.int .i64) (.pair .bool (.pair (.int .i64) (.pair .str (.pair .str (.pair (.int .i64) (.pair (.int .i64) .unit))))))) (.pair (.int .i64) (.pair (.int .i64) .unit)))) .unit)), .val (.int .i64)] [.val (.slice .str)] [.slice .str]) :=
  ⟨trivial, ⟨trivial, ⟨⟨trivial, ⟨by kernel_rfl, fun x => by kernel_rfl, fun m => ⟨fun x => by kernel_rfl, ⟨trivial, ⟨⟨trivial, ⟨trivial, ⟨trivial, ⟨trivial, ⟨trivial, ⟨⟨trivial, ⟨by kernel_rfl, fun x => by kernel_rfl, fun m => ⟨fun x => by kernel_rfl, trivial⟩⟩⟩, trivial⟩⟩⟩⟩⟩⟩, trivial⟩⟩⟩⟩⟩, trivial⟩⟩⟩

theorem E33 (n : Nat) (a0 : Option (List ((Int × (Bool × (Int × (List UInt8 × (List UInt8 × (Int × (Int × Unit))))))) × (Int × (Int × Unit))) × Unit)) (a1 : Int) : F33 n a0 a1 = fnE [.val (.ref (.pair (.slice (.pair (.pair (.int .i64) (.pair .bool (.pair (.int .i64) (.pair .str (.pair .str (.pair (.int .i64) (.pair (.int .i64) .unit))))))) (.pair (.int .i64) (.pair (.int .i64) .unit)))) .unit)), .val (.int .i64)] (argDs [.ref (.pair (.slice (.pair (.pair (.int .i64) (.pair .bool (.pair (.int .i64) (.pair .str (.pair .str (.pair (.int .i64) (.pair (.int .i64) .unit))))))) (.pair (.int .i64) (.pair (.int .i64) .unit)))) .unit), .int .i64] (a0, a1)) (fun st => ev (G33 n) noInl lay0 70 c33 (P33 n) st (fnK lay0 [.tmp 4] [.val (.ref (.pair (.slice (.pair (.pair (.int .i64) (.pair .bool (.pair (.int .i64) (.pair .str (.pair .str (.pair (.int .i64) (.pair (.int .i64) .unit))))))) (.pair (.int .i64) (.pair (.int .i64) .unit)))) .unit)), .val (.int .i64)] [.val (.slice .str)] [.slice .str])) := by kernel_rfl

theorem T33 (n : Nat) : Told Tryd.prog 33 [.ref (.pair (.slice (.pair (.pair (.int .i64) (.pair .bool (.pair (.int .i64) (.pair .str (.pair .str (.pair (.int .i64) (.pair (.int .i64) .unit))))))) (.pair (.int .i64) (.pair (.int .i64) .unit)))) .unit), .int .i64] [.slice .str] (fun x => F33 n x.1 x.2) := by
  rintro ⟨a0, a1⟩ r h
  exact calls_plain (fn_sound lay0_ok mixed (rvs := [.tmp 4]) (by kernel_rfl : Tryd.prog.funcs[33]? = some Tryd.f33) (by kernel_rfl : Tryd.f33.body = some c33) (by kernel_rfl) (by kernel_rfl) (by kernel_rfl) (GO33 n) noInl_ok (K33 n) ((E33 n a0 a1).symm.trans h)) rfl rfl rfl rfl

/-! ### orthoepy/orthoepylaw25.awake -/

def F12 (n : Nat) : Option (Bool) :=
  (match F13 n ([47, 97, 126, 49, 98, 47, 48] : List UInt8) with
  | some r1 =>
  (match F13 n ([47, 126, 50] : List UInt8) with
  | some r2 =>
  (match F13 n ([97] : List UInt8) with
  | some r3 =>
  (match F13 n ([47, 126] : List UInt8) with
  | some r4 =>
  (match F15 n ([49, 48] : List UInt8) with
  | some r5 =>
  (match F15 n ([48, 49] : List UInt8) with
  | some r6 =>
  (match F25 n (V.mk 6 false 0 ([] : List UInt8) ([([97] : List UInt8)] : List (List UInt8)) ([(V.mk 5 false 0 ([] : List UInt8) ([] : List (List UInt8)) ([(V.mk 3 false 1 ([] : List UInt8) ([] : List (List UInt8)) ([] : List V)), (V.mk 3 false 2 ([] : List UInt8) ([] : List (List UInt8)) ([] : List V))] : List V))] : List V)) with
  | some r7 =>
  (bif (Option.isNone r7) then
    some false
  else
    (match F28 n r7 ([([97] : List UInt8), ([49] : List UInt8)] : List (List UInt8)) with
    | some r8 =>
    (match F28 n r7 ([([97] : List UInt8), ([50] : List UInt8)] : List (List UInt8)) with
    | some r9 =>
    (match F17 n r1.1 ([([97, 47, 98] : List UInt8), ([48] : List UInt8)] : List (List UInt8)) with
    | some r10 =>
    (bif r10 then
      (bif (r1.2.1 == 7) then
        (bif r1.2.2 then
          (bif (r2.2.1 == 2) then
            (bif (!r2.2.2) then
              (bif (r3.2.1 == 0) then
                (bif (!r3.2.2) then
                  (bif (r4.2.1 == 2) then
                    (bif (!r4.2.2) then
                      (bif (r5.1 == 10) then
                        (bif r5.2 then
                          (bif (!r6.2) then
                            (bif (r8.1 == 3) then
                              (bif (r8.2 == 2) then
                                (bif (r9.1 == (-1)) then
                                  (bif (r9.2 == 1) then
                                    (match F18 n ([([126] : List UInt8), ([] : List UInt8)] : List (List UInt8)) with
                                    | some r11 =>
                                    some (r11 == ([47, 126, 48, 47] : List UInt8))
                                    | none => none)
                                  else
                                    some false)
                                else
                                  some false)
                              else
                                some false)
                            else
                              some false)
                          else
                            some false)
                        else
                          some false)
                      else
                        some false)
                    else
                      some false)
                  else
                    some false)
                else
                  some false)
              else
                some false)
            else
              some false)
          else
            some false)
        else
          some false)
      else
        some false)
    else
      some false)
    | none => none)
    | none => none)
    | none => none))
  | none => none)
  | none => none)
  | none => none)
  | none => none)
  | none => none)
  | none => none)
  | none => none)

noncomputable def c12 : Code := Tryd.f12.body.getD .skip

noncomputable def G12 (n : Nat) : Ctx (Res [.bool]) := ent 13 [.str] [.slice .str, .int .i64, .bool] (fun x => F13 n x) (ent 15 [.str] [.int .i64, .bool] (fun x => F15 n x) (ent 17 [.slice .str, .slice .str] [.bool] (fun x => F17 n x.1 x.2) (ent 18 [.slice .str] [.str] (fun x => F18 n x) (ent 25 [.value] [.ref (.pair (.slice (.pair (.pair (.int .i64) (.pair .bool (.pair (.int .i64) (.pair .str (.pair .str (.pair (.int .i64) (.pair (.int .i64) .unit))))))) (.pair (.int .i64) (.pair (.int .i64) .unit)))) .unit)] (fun x => F25 n x) (ent 28 [.ref (.pair (.slice (.pair (.pair (.int .i64) (.pair .bool (.pair (.int .i64) (.pair .str (.pair .str (.pair (.int .i64) (.pair (.int .i64) .unit))))))) (.pair (.int .i64) (.pair (.int .i64) .unit)))) .unit), .slice .str] [.int .i64, .int .i64] (fun x => F28 n x.1 x.2) (noFns))))))

theorem GO12 (n : Nat) : CtxOK Tryd.prog lay0 (G12 n) := ent_ok (T13 n) (fun _ _ h => h) (ent_ok (T15 n) (fun _ _ h => h) (ent_ok (T17 n) (fun _ _ h => h) (ent_ok (T18 n) (fun _ _ h => h) (ent_ok (T25 n) (fun _ _ h => h) (ent_ok (T28 n) (fun _ _ h => h) (noFns_ok))))))

noncomputable def P12 (n : Nat) : Pl (Res [.bool]) :=
  .leaf

theorem K12 (n : Nat) : PlOK (G12 n) noInl lay0 140 (P12 n) c12 (fnK lay0 [.tmp 0] [] [.val .bool] [.bool]) :=
  trivial

theorem E12 (n : Nat) : F12 n = fnE [] (argDs [] ()) (fun st => ev (G12 n) noInl lay0 140 c12 (P12 n) st (fnK lay0 [.tmp 0] [] [.val .bool] [.bool])) := by kernel_rfl

theorem T12 (n : Nat) : Told Tryd.prog 12 [] [.bool] (fun x => F12 n) := by
  rintro _ r h
  exact calls_plain (fn_sound lay0_ok mixed (rvs := [.tmp 0]) (by kernel_rfl : Tryd.prog.funcs[12]? = some Tryd.f12) (by kernel_rfl : Tryd.f12.body = some c12) (by kernel_rfl) (by kernel_rfl) (by kernel_rfl) (GO12 n) noInl_ok (K12 n) ((E12 n).symm.trans h)) rfl rfl rfl rfl

/-- With so much fuel. -/
def A12 := F12 1000
theorem TA12 : Told Tryd.prog 12 [] [.bool] (fun x => A12) := T12 1000

/-! ### orthoepy/orthoepylaw25.PointerAll -/

def F3 (n : Nat) (a0 : List UInt8) (a1 : List UInt8) (a2 : List (List UInt8)) : Option (Bool) :=
  (bif (decide (((a0).length : Int) > 200)) then
    (match A12 with
    | some r1 =>
    some r1
    | none => none)
  else
    (bif (decide (((a1).length : Int) > 200)) then
      (match A12 with
      | some r2 =>
      some r2
      | none => none)
    else
      (match F11 n a2 with
      | some r3 =>
      (bif (!r3) then
        (match A12 with
        | some r4 =>
        some r4
        | none => none)
      else
        (match F13 n a0 with
        | some r5 =>
        (match F14 n a0 with
        | some r6 =>
        (match F15 n a1 with
        | some r7 =>
        (match F16 n a1 with
        | some r8 =>
        (match F17 n r5.1 r6.1 with
        | some r9 =>
        (bif r9 then
          (bif (r5.2.1 == r6.2.1) then
            (bif (r5.2.2 == r6.2.2) then
              (bif (r7.1 == r8.1) then
                (bif (r7.2 == r8.2) then
                  (match F18 n a2 with
                  | some r10 =>
                  (match F19 n a2 with
                  | some r11 =>
                  (bif (r10 == r11) then
                    (match A12 with
                    | some r12 =>
                    some r12
                    | none => none)
                  else
                    some false)
                  | none => none)
                  | none => none)
                else
                  some false)
              else
                some false)
            else
              some false)
          else
            some false)
        else
          some false)
        | none => none)
        | none => none)
        | none => none)
        | none => none)
        | none => none))
      | none => none)))

noncomputable def c3 : Code := Tryd.f3.body.getD .skip

noncomputable def G3 (n : Nat) : Ctx (Res [.bool]) := ent 11 [.slice .str] [.bool] (fun x => F11 n x) (ent 12 [] [.bool] (fun x => A12 ) (ent 13 [.str] [.slice .str, .int .i64, .bool] (fun x => F13 n x) (ent 14 [.str] [.slice .str, .int .i64, .bool] (fun x => F14 n x) (ent 15 [.str] [.int .i64, .bool] (fun x => F15 n x) (ent 16 [.str] [.int .i64, .bool] (fun x => F16 n x) (ent 17 [.slice .str, .slice .str] [.bool] (fun x => F17 n x.1 x.2) (ent 18 [.slice .str] [.str] (fun x => F18 n x) (ent 19 [.slice .str] [.str] (fun x => F19 n x) (noFns)))))))))

theorem GO3 (n : Nat) : CtxOK Tryd.prog lay0 (G3 n) := ent_ok (T11 n) (fun _ _ h => h) (ent_ok TA12 (fun _ _ h => h) (ent_ok (T13 n) (fun _ _ h => h) (ent_ok (T14 n) (fun _ _ h => h) (ent_ok (T15 n) (fun _ _ h => h) (ent_ok (T16 n) (fun _ _ h => h) (ent_ok (T17 n) (fun _ _ h => h) (ent_ok (T18 n) (fun _ _ h => h) (ent_ok (T19 n) (fun _ _ h => h) (noFns_ok)))))))))

noncomputable def P3 (n : Nat) : Pl (Res [.bool]) :=
  .leaf

theorem K3 (n : Nat) : PlOK (G3 n) noInl lay0 86 (P3 n) c3 (fnK lay0 [.tmp 6] [.val .str, .val .str, .val (.slice .str)] [.val .bool] [.bool]) :=
  trivial

theorem E3 (n : Nat) (a0 : List UInt8) (a1 : List UInt8) (a2 : List (List UInt8)) : F3 n a0 a1 a2 = fnE [.val .str, .val .str, .val (.slice .str)] (argDs [.str, .str, .slice .str] (a0, a1, a2)) (fun st => ev (G3 n) noInl lay0 86 c3 (P3 n) st (fnK lay0 [.tmp 6] [.val .str, .val .str, .val (.slice .str)] [.val .bool] [.bool])) := by kernel_rfl

theorem T3 (n : Nat) : Told Tryd.prog 3 [.str, .str, .slice .str] [.bool] (fun x => F3 n x.1 x.2.1 x.2.2) := by
  rintro ⟨a0, a1, a2⟩ r h
  exact calls_plain (fn_sound lay0_ok mixed (rvs := [.tmp 6]) (by kernel_rfl : Tryd.prog.funcs[3]? = some Tryd.f3) (by kernel_rfl : Tryd.f3.body = some c3) (by kernel_rfl) (by kernel_rfl) (by kernel_rfl) (GO3 n) noInl_ok (K3 n) ((E3 n a0 a1 a2).symm.trans h)) rfl rfl rfl rfl

/-! ### orthoepy/orthoepylaw25.PointerBack -/

def F4l0F (n : Nat) (rF4l0 : List (List UInt8) → Int → Option (Bool)) (t0 : List (List UInt8)) (t3 : Int) : Option (Bool) :=
  (bif (decide (t3 < ((t0).length : Int))) then
    (bif inB t3 (t0).length then
    (match F20 n ((t0).getD (Int.toNat t3) (Ty.dflt .str)) with
    | some r3 =>
    (bif (!r3) then
      (match A12 with
      | some r4 =>
      some r4
      | none => none)
    else
      rF4l0 t0 (IntKind.wrap .i64 (t3 + 1)))
    | none => none)
    else none)
  else
    (match F18 n t0 with
    | some r5 =>
    (match F13 n r5 with
    | some r6 =>
    (bif r6.2.2 then
      (bif (r6.2.1 == ((r5).length : Int)) then
        (match F17 n r6.1 t0 with
        | some r7 =>
        (bif r7 then
          (match A12 with
          | some r8 =>
          some r8
          | none => none)
        else
          some false)
        | none => none)
      else
        some false)
    else
      some false)
    | none => none)
    | none => none))
def F4l0 (n : Nat) : Nat → List (List UInt8) → Int → Option (Bool)
  | 0, _, _ => none
  | m + 1, t0, t3 => F4l0F n (F4l0 n m) t0 t3

def F4 (n : Nat) (a0 : List (List UInt8)) : Option (Bool) :=
  (match F11 n a0 with
  | some r1 =>
  (bif (!r1) then
    (match A12 with
    | some r2 =>
    some r2
    | none => none)
  else
    F4l0 n n a0 0)
  | none => none)

noncomputable def c4 : Code := Tryd.f4.body.getD .skip

noncomputable def G4 (n : Nat) : Ctx (Res [.bool]) := ent 11 [.slice .str] [.bool] (fun x => F11 n x) (ent 12 [] [.bool] (fun x => A12 ) (ent 13 [.str] [.slice .str, .int .i64, .bool] (fun x => F13 n x) (ent 17 [.slice .str, .slice .str] [.bool] (fun x => F17 n x.1 x.2) (ent 18 [.slice .str] [.str] (fun x => F18 n x) (ent 20 [.str] [.bool] (fun x => F20 n x) (noFns))))))

theorem GO4 (n : Nat) : CtxOK Tryd.prog lay0 (G4 n) := ent_ok (T11 n) (fun _ _ h => h) (ent_ok TA12 (fun _ _ h => h) (ent_ok (T13 n) (fun _ _ h => h) (ent_ok (T17 n) (fun _ _ h => h) (ent_ok (T18 n) (fun _ _ h => h) (ent_ok (T20 n) (fun _ _ h => h) (noFns_ok))))))

noncomputable def P4 (n : Nat) : Pl (Res [.bool]) :=
  (.two .leaf (.two .leaf (.two (.two .leaf (.one (.loop [.val (.tmp 0) (.slice .str), .val (.tmp 3) (.int .i64)] n (fun m x => F4l0 n m x.1 x.2.1) (fun _ => .leaf)))) .leaf)))

theorem K4 (n : Nat) : PlOK (G4 n) noInl lay0 48 (P4 n) c4 (fnK lay0 [.tmp 2] [.val (.slice .str)] [.val .bool] [.bool]) :=
  ⟨trivial, ⟨trivial, ⟨⟨trivial, ⟨by kernel_rfl, fun x => by kernel_rfl, fun m => ⟨fun x => by kernel_rfl, trivial⟩⟩⟩, trivial⟩⟩⟩

theorem E4 (n : Nat) (a0 : List (List UInt8)) : F4 n a0 = fnE [.val (.slice .str)] (argDs [.slice .str] (a0)) (fun st => ev (G4 n) noInl lay0 48 c4 (P4 n) st (fnK lay0 [.tmp 2] [.val (.slice .str)] [.val .bool] [.bool])) := by kernel_rfl

theorem T4 (n : Nat) : Told Tryd.prog 4 [.slice .str] [.bool] (fun x => F4 n x) := by
  rintro a0 r h
  exact calls_plain (fn_sound lay0_ok mixed (rvs := [.tmp 2]) (by kernel_rfl : Tryd.prog.funcs[4]? = some Tryd.f4) (by kernel_rfl : Tryd.f4.body = some c4) (by kernel_rfl) (by kernel_rfl) (by kernel_rfl) (GO4 n) noInl_ok (K4 n) ((E4 n a0).symm.trans h)) rfl rfl rfl rfl

/-! ### orthoepy/orthoepylaw25.PointerForth -/

def F5l0F (n : Nat) (rF5l0 : List UInt8 → List (List UInt8) → Int → Int → Int → Option (Bool)) (t0 : List UInt8) (t3 : List (List UInt8)) (t4 : Int) (t6 : Int) (t7 : Int) : Option (Bool) :=
  (bif (decide (t7 < ((t0).length : Int))) then
    (bif inB t7 (t0).length then
    (bif ((((t0).getD (Int.toNat t7) 0).toNat : Int) == 47) then
      rF5l0 t0 t3 t4 (IntKind.wrap .i64 (t6 + 1)) (IntKind.wrap .i64 (t7 + 1))
    else
      rF5l0 t0 t3 t4 t6 (IntKind.wrap .i64 (t7 + 1)))
    else none)
  else
    (bif (t4 == ((t0).length : Int)) then
      (bif (((t3).length : Int) == t6) then
        (match F18 n t3 with
        | some r4 =>
        (bif (r4 == t0) then
          (match A12 with
          | some r5 =>
          some r5
          | none => none)
        else
          some false)
        | none => none)
      else
        some false)
    else
      some false))
def F5l0 (n : Nat) : Nat → List UInt8 → List (List UInt8) → Int → Int → Int → Option (Bool)
  | 0, _, _, _, _, _ => none
  | m + 1, t0, t3, t4, t6, t7 => F5l0F n (F5l0 n m) t0 t3 t4 t6 t7

def F5 (n : Nat) (a0 : List UInt8) : Option (Bool) :=
  (bif (decide (((a0).length : Int) > 200)) then
    (match A12 with
    | some r1 =>
    some r1
    | none => none)
  else
    (match F13 n a0 with
    | some r2 =>
    (bif (!r2.2.2) then
      (bif (((r2.1).length : Int) == 0) then
        (match A12 with
        | some r3 =>
        some r3
        | none => none)
      else
        some false)
    else
      F5l0 n n a0 r2.1 r2.2.1 0 0)
    | none => none))

noncomputable def c5 : Code := Tryd.f5.body.getD .skip

noncomputable def G5 (n : Nat) : Ctx (Res [.bool]) := ent 12 [] [.bool] (fun x => A12 ) (ent 13 [.str] [.slice .str, .int .i64, .bool] (fun x => F13 n x) (ent 18 [.slice .str] [.str] (fun x => F18 n x) (noFns)))

theorem GO5 (n : Nat) : CtxOK Tryd.prog lay0 (G5 n) := ent_ok TA12 (fun _ _ h => h) (ent_ok (T13 n) (fun _ _ h => h) (ent_ok (T18 n) (fun _ _ h => h) (noFns_ok)))

noncomputable def P5 (n : Nat) : Pl (Res [.bool]) :=
  (.two .leaf (.two .leaf (.two .leaf (.two .leaf (.two .leaf (.two (.two .leaf (.one (.loop [.val (.tmp 0) .str, .val (.tmp 3) (.slice .str), .val (.tmp 4) (.int .i64), .val (.tmp 6) (.int .i64), .val (.tmp 7) (.int .i64)] n (fun m x => F5l0 n m x.1 x.2.1 x.2.2.1 x.2.2.2.1 x.2.2.2.2.1) (fun _ => .leaf)))) .leaf))))))

theorem K5 (n : Nat) : PlOK (G5 n) noInl lay0 57 (P5 n) c5 (fnK lay0 [.tmp 2] [.val .str] [.val .bool] [.bool]) :=
  ⟨trivial, ⟨trivial, ⟨trivial, ⟨trivial, ⟨trivial, ⟨⟨trivial, ⟨by kernel_rfl, fun x => by kernel_rfl, fun m => ⟨fun x => by kernel_rfl, trivial⟩⟩⟩, trivial⟩⟩⟩⟩⟩⟩

theorem E5 (n : Nat) (a0 : List UInt8) : F5 n a0 = fnE [.val .str] (argDs [.str] (a0)) (fun st => ev (G5 n) noInl lay0 57 c5 (P5 n) st (fnK lay0 [.tmp 2] [.val .str] [.val .bool] [.bool])) := by kernel_rfl

theorem T5 (n : Nat) : Told Tryd.prog 5 [.str] [.bool] (fun x => F5 n x) := by
  rintro a0 r h
  exact calls_plain (fn_sound lay0_ok mixed (rvs := [.tmp 2]) (by kernel_rfl : Tryd.prog.funcs[5]? = some Tryd.f5) (by kernel_rfl : Tryd.f5.body = some c5) (by kernel_rfl) (by kernel_rfl) (by kernel_rfl) (GO5 n) noInl_ok (K5 n) ((E5 n a0).symm.trans h)) rfl rfl rfl rfl

/-! ### orthoepy/orthoepylaw25.PointerIndex -/

def F7j1 (n : Nat) (t1 : List UInt8) : Option (Bool) :=
  (match F15 n t1 with
  | some r6 =>
  (bif (!r6.2) then
    (bif (r6.1 == 0) then
      (match A12 with
      | some r7 =>
      some r7
      | none => none)
    else
      (bif r6.2 then
        (bif (decide (r6.1 ≥ 0)) then
          (match F23 n r6.1 with
          | some r8 =>
          (bif (r8 == t1) then
            (match A12 with
            | some r9 =>
            some r9
            | none => none)
          else
            some false)
          | none => none)
        else
          some false)
      else
        some false))
  else
    (bif r6.2 then
      (bif (decide (r6.1 ≥ 0)) then
        (match F23 n r6.1 with
        | some r10 =>
        (bif (r10 == t1) then
          (match A12 with
          | some r11 =>
          some r11
          | none => none)
        else
          some false)
        | none => none)
      else
        some false)
    else
      some false))
  | none => none)

def F7j0 (n : Nat) (t0 : Int) (t1 : List UInt8) (t6 : Int) (t7 : Bool) (t9 : Bool) (t11 : Bool) (t12 : Bool) : Option (Bool) :=
  (bif (!(t7 == t12)) then
    some false
  else
    (bif t12 then
      (bif (t6 != t0) then
        some false
      else
        (bif (!t12) then
          (bif (t6 != 0) then
            some false
          else
            (bif t9 then
              some false
            else
              (bif t11 then
                some false
              else
                F7j1 n t1)))
        else
          (bif t9 then
            some false
          else
            (bif t11 then
              some false
            else
              F7j1 n t1))))
    else
      (bif (!t12) then
        (bif (t6 != 0) then
          some false
        else
          (bif t9 then
            some false
          else
            (bif t11 then
              some false
            else
              F7j1 n t1)))
      else
        (bif t9 then
          some false
        else
          (bif t11 then
            some false
          else
            F7j1 n t1)))))

def F7 (n : Nat) (a0 : Int) (a1 : List UInt8) : Option (Bool) :=
  (bif (decide (((a1).length : Int) > 200)) then
    (match A12 with
    | some r1 =>
    some r1
    | none => none)
  else
    (match F23 n a0 with
    | some r2 =>
    (match F15 n r2 with
    | some r3 =>
    (bif decide (([48] : List UInt8).length + r2.length ≤ 9223372036854775807) then
    (match F15 n (([48] : List UInt8) ++ r2) with
    | some r4 =>
    (bif decide (([43] : List UInt8).length + r2.length ≤ 9223372036854775807) then
    (match F15 n (([43] : List UInt8) ++ r2) with
    | some r5 =>
    (bif (decide (a0 ≥ 0)) then
      F7j0 n a0 a1 r3.1 r3.2 r4.2 r5.2 (decide (a0 ≤ 999999999))
    else
      F7j0 n a0 a1 r3.1 r3.2 r4.2 r5.2 false)
    | none => none)
    else none)
    | none => none)
    else none)
    | none => none)
    | none => none))

noncomputable def c7 : Code := Tryd.f7.body.getD .skip

noncomputable def G7 (n : Nat) : Ctx (Res [.bool]) := ent 12 [] [.bool] (fun x => A12 ) (ent 15 [.str] [.int .i64, .bool] (fun x => F15 n x) (ent 23 [.int .i64] [.str] (fun x => F23 n x) (noFns)))

theorem GO7 (n : Nat) : CtxOK Tryd.prog lay0 (G7 n) := ent_ok TA12 (fun _ _ h => h) (ent_ok (T15 n) (fun _ _ h => h) (ent_ok (T23 n) (fun _ _ h => h) (noFns_ok)))

noncomputable def P7 (n : Nat) : Pl (Res [.bool]) :=
  (.two .leaf (.two .leaf (.two .leaf (.two .leaf (.two .leaf (.two .leaf (.join [.val (.tmp 0) (.int .i64), .val (.tmp 1) .str, .val (.tmp 6) (.int .i64), .val (.tmp 7) .bool, .val (.tmp 9) .bool, .val (.tmp 11) .bool, .val (.tmp 12) .bool] (fun x => F7j0 n x.1 x.2.1 x.2.2.1 x.2.2.2.1 x.2.2.2.2.1 x.2.2.2.2.2.1 x.2.2.2.2.2.2.1) .leaf (.join [.val (.tmp 1) .str] (fun x => F7j1 n x.1) .leaf .leaf))))))))

theorem K7 (n : Nat) : PlOK (G7 n) noInl lay0 96 (P7 n) c7 (fnK lay0 [.tmp 4] [.val (.int .i64), .val .str] [.val .bool] [.bool]) :=
  ⟨trivial, ⟨trivial, ⟨trivial, ⟨trivial, ⟨trivial, ⟨trivial, ⟨by kernel_rfl, fun x => by kernel_rfl, trivial, ⟨by kernel_rfl, fun x => by kernel_rfl, trivial, trivial⟩⟩⟩⟩⟩⟩⟩⟩

theorem E7 (n : Nat) (a0 : Int) (a1 : List UInt8) : F7 n a0 a1 = fnE [.val (.int .i64), .val .str] (argDs [.int .i64, .str] (a0, a1)) (fun st => ev (G7 n) noInl lay0 96 c7 (P7 n) st (fnK lay0 [.tmp 4] [.val (.int .i64), .val .str] [.val .bool] [.bool])) := by kernel_rfl

theorem T7 (n : Nat) : Told Tryd.prog 7 [.int .i64, .str] [.bool] (fun x => F7 n x.1 x.2) := by
  rintro ⟨a0, a1⟩ r h
  exact calls_plain (fn_sound lay0_ok mixed (rvs := [.tmp 4]) (by kernel_rfl : Tryd.prog.funcs[7]? = some Tryd.f7) (by kernel_rfl : Tryd.f7.body = some c7) (by kernel_rfl) (by kernel_rfl) (by kernel_rfl) (GO7 n) noInl_ok (K7 n) ((E7 n a0 a1).symm.trans h)) rfl rfl rfl rfl

/-! ### orthoepy/orthoepylaw25.PointerEvals -/

def F8l0F (n : Nat) (rF8l0 : List Int → Option (List ((Int × (Bool × (Int × (List UInt8 × (List UInt8 × (Int × (Int × Unit))))))) × (Int × (Int × Unit))) × Unit) → Option (List (Int × (Bool × (Int × (List UInt8 × (List UInt8 × (Int × (Int × Unit))))))) × (List Int × (List Int × Unit))) → List (List UInt8) → Int → Option (Bool)) (t1 : List Int) (t6 : Option (List ((Int × (Bool × (Int × (List UInt8 × (List UInt8 × (Int × (Int × Unit))))))) × (Int × (Int × Unit))) × Unit)) (t7 : Option (List (Int × (Bool × (Int × (List UInt8 × (List UInt8 × (Int × (Int × Unit))))))) × (List Int × (List Int × Unit)))) (t8 : List (List UInt8)) (t9 : Int) : Option (Bool) :=
  (bif (decide (t9 < ((t1).length : Int))) then
    (bif inB t9 (t1).length then
    (match F27 n ((t1).getD (Int.toNat t9) (Ty.dflt (.int .i64))) with
    | some r7 =>
    (bif (decide (((t8).length + (([r7] : List (List UInt8))).length) * 16 ≤ maxRoom) && decide ((t8).length + (([r7] : List (List UInt8))).length ≤ maxRoom)) then
    rF8l0 t1 t6 t7 (t8 ++ ([r7] : List (List UInt8))) (IntKind.wrap .i64 (t9 + 1))
    else none)
    | none => none)
    else none)
  else
    (match F28 n t6 t8 with
    | some r8 =>
    (match F29 n t7 t8 with
    | some r9 =>
    (bif (r8.1 == r9.1) then
      (bif (r8.2 == r9.2) then
        (match A12 with
        | some r10 =>
        some r10
        | none => none)
      else
        some false)
    else
      some false)
    | none => none)
    | none => none))
def F8l0 (n : Nat) : Nat → List Int → Option (List ((Int × (Bool × (Int × (List UInt8 × (List UInt8 × (Int × (Int × Unit))))))) × (Int × (Int × Unit))) × Unit) → Option (List (Int × (Bool × (Int × (List UInt8 × (List UInt8 × (Int × (Int × Unit))))))) × (List Int × (List Int × Unit))) → List (List UInt8) → Int → Option (Bool)
  | 0, _, _, _, _, _ => none
  | m + 1, t1, t6, t7, t8, t9 => F8l0F n (F8l0 n m) t1 t6 t7 t8 t9

def F8 (n : Nat) (a0 : List Int) (a1 : List Int) : Option (Bool) :=
  (match F24 n a0 with
  | some r1 =>
  (match F25 n (V.mk r1.kind r1.b r1.n r1.s r1.names r1.kids) with
  | some r2 =>
  (match F26 n (V.mk r1.kind r1.b r1.n r1.s r1.names r1.kids) with
  | some r3 =>
  (bif (Option.isNone r2) then
    (bif (!(Option.isNone r2)) then
      (match A12 with
      | some r4 =>
      some r4
      | none => none)
    else
      some false)
  else
    (bif (decide (((a0).length : Int) > 60)) then
      (bif (!(Option.isNone r2)) then
        (match A12 with
        | some r5 =>
        some r5
        | none => none)
      else
        some false)
    else
      (bif (decide (((a1).length : Int) > 8)) then
        (bif (!(Option.isNone r2)) then
          (match A12 with
          | some r6 =>
          some r6
          | none => none)
        else
          some false)
      else
        F8l0 n n a1 r2 r3 ([] : List (List UInt8)) 0)))
  | none => none)
  | none => none)
  | none => none)

noncomputable def c8 : Code := Tryd.f8.body.getD .skip

noncomputable def G8 (n : Nat) : Ctx (Res [.bool]) := ent 12 [] [.bool] (fun x => A12 ) (ent 24 [.slice (.int .i64)] [.value] (fun x => F24 n x) (ent 25 [.value] [.ref (.pair (.slice (.pair (.pair (.int .i64) (.pair .bool (.pair (.int .i64) (.pair .str (.pair .str (.pair (.int .i64) (.pair (.int .i64) .unit))))))) (.pair (.int .i64) (.pair (.int .i64) .unit)))) .unit)] (fun x => F25 n x) (ent 26 [.value] [.ref (.pair (.slice (.pair (.int .i64) (.pair .bool (.pair (.int .i64) (.pair .str (.pair .str (.pair (.int .i64) (.pair (.int .i64) .unit)))))))) (.pair (.slice (.int .i64)) (.pair (.slice (.int .i64)) .unit)))] (fun x => F26 n x) (ent 27 [.int .i64] [.str] (fun x => F27 n x) (ent 28 [.ref (.pair (.slice (.pair (.pair (.int .i64) (.pair .bool (.pair (.int .i64) (.pair .str (.pair .str (.pair (.int .i64) (.pair (.int .i64) .unit))))))) (.pair (.int .i64) (.pair (.int .i64) .unit)))) .unit), .slice .str] [.int .i64, .int .i64] (fun x => F28 n x.1 x.2) (ent 29 [.ref (.pair (.slice (.pair (.int .i64) (.pair .bool (.pair (.int .i64) (.pair .str (.pair .str (.pair (.int .i64) (.pair (.int .i64) .unit)))))))) (.pair (.slice (.int .i64)) (.pair (.slice (.int .i64)) .unit))), .slice .str] [.int .i64, .int .i64] (fun x => F29 n x.1 x.2) (noFns)))))))

theorem GO8 (n : Nat) : CtxOK Tryd.prog lay0 (G8 n) := ent_ok TA12 (fun _ _ h => h) (ent_ok (T24 n) (fun _ _ h => h) (ent_ok (T25 n) (fun _ _ h => h) (ent_ok (T26 n) (fun _ _ h => h) (ent_ok (T27 n) (fun _ _ h => h) (ent_ok (T28 n) (fun _ _ h => h) (ent_ok (T29 n) (fun _ _ h => h) (noFns_ok)))))))

noncomputable def P8 (n : Nat) : Pl (Res [.bool]) :=
  (.two .leaf (.two .leaf (.two .leaf (.two .leaf (.two .leaf (.two (.two .leaf (.one (.loop [.val (.tmp 1) (.slice (.int .i64)), .val (.tmp 6) (.ref (.pair (.slice (.pair (.pair (.int .i64) (.pair .bool (.pair (.int .i64) (.pair .str (.pair .str (.pair (.int .i64) (.pair (.int .i64) .unit))))))) (.pair (.int .i64) (.pair (.int .i64) .unit)))) .unit)), .val (.tmp 7) (.ref (.pair (.slice (.pair (.int .i64) (.pair .bool (.pair (.int .i64) (.pair .str (.pair .str (.pair (.int .i64) (.pair (.int .i64) .unit)))))))) (.pair (.slice (.int .i64)) (.pair (.slice (.int .i64)) .unit)))), .vec (.tmp 8) 20000000 9 .str, .val (.tmp 9) (.int .i64)] n (fun m x => F8l0 n m x.1 x.2.1 x.2.2.1 x.2.2.2.1 x.2.2.2.2.1) (fun _ => .leaf)))) .leaf))))))

theorem K8 (n : Nat) : PlOK (G8 n) noInl lay0 74 (P8 n) c8 (fnK lay0 [.tmp 4] [.val (.slice (.int .i64)), .val (.slice (.int .i64))] [.val .bool] [.bool]) :=
  ⟨trivial, ⟨trivial, ⟨trivial, ⟨trivial, ⟨trivial, ⟨⟨trivial, ⟨by kernel_rfl, fun x => by kernel_rfl, fun m => ⟨fun x => by kernel_rfl, trivial⟩⟩⟩, trivial⟩⟩⟩⟩⟩⟩

theorem E8 (n : Nat) (a0 : List Int) (a1 : List Int) : F8 n a0 a1 = fnE [.val (.slice (.int .i64)), .val (.slice (.int .i64))] (argDs [.slice (.int .i64), .slice (.int .i64)] (a0, a1)) (fun st => ev (G8 n) noInl lay0 74 c8 (P8 n) st (fnK lay0 [.tmp 4] [.val (.slice (.int .i64)), .val (.slice (.int .i64))] [.val .bool] [.bool])) := by kernel_rfl

theorem T8 (n : Nat) : Told Tryd.prog 8 [.slice (.int .i64), .slice (.int .i64)] [.bool] (fun x => F8 n x.1 x.2) := by
  rintro ⟨a0, a1⟩ r h
  exact calls_plain (fn_sound lay0_ok mixed (rvs := [.tmp 4]) (by kernel_rfl : Tryd.prog.funcs[8]? = some Tryd.f8) (by kernel_rfl : Tryd.f8.body = some c8) (by kernel_rfl) (by kernel_rfl) (by kernel_rfl) (GO8 n) noInl_ok (K8 n) ((E8 n a0 a1).symm.trans h)) rfl rfl rfl rfl

/-! ### orthoepy/orthoepylaw25.PointerPaths -/

def F9j0 (n : Nat) (t0 : List Int) (t2 : Int) (b7_0 : Int) (b7_1 : Bool) (b7_2 : Int) (b7_3 : List UInt8) (b7_4 : List (List UInt8)) (b7_5 : List V) : Option (Bool) :=
  (match F25 n (V.mk b7_0 b7_1 b7_2 b7_3 b7_4 b7_5) with
  | some r3 =>
  (bif (Option.isNone r3) then
    (bif (!(Option.isNone r3)) then
      (match A12 with
      | some r4 =>
      some r4
      | none => none)
    else
      some false)
  else
    (bif (decide (((t0).length : Int) > 60)) then
      (bif (!(Option.isNone r3)) then
        (match A12 with
        | some r5 =>
        some r5
        | none => none)
      else
        some false)
    else
      (match F32 n r3 with
      | some r6 =>
      (match F31 n t2 (if 1 > r6 then 1 else r6) with
      | some r7 =>
      (match F33 n r3 r7 with
      | some r8 =>
      (match F18 n r8 with
      | some r9 =>
      (match F13 n r9 with
      | some r10 =>
      (match F28 n r3 r10.1 with
      | some r11 =>
      (bif r10.2.2 then
        (bif (r11.1 == r7) then
          (bif (r11.2 == ((r8).length : Int)) then
            (match F32 n r3 with
            | some r12 =>
            (bif (decide (r12 > 0)) then
              (match A12 with
              | some r13 =>
              some r13
              | none => none)
            else
              some false)
            | none => none)
          else
            some false)
        else
          some false)
      else
        some false)
      | none => none)
      | none => none)
      | none => none)
      | none => none)
      | none => none)
      | none => none)))
  | none => none)

def F9 (n : Nat) (a0 : List Int) (a1 : Bool) (a2 : Int) : Option (Bool) :=
  (match F30 n a0 with
  | some r1 =>
  (bif a1 then
    (match F24 n a0 with
    | some r2 =>
    F9j0 n a0 a2 r2.kind r2.b r2.n r2.s r2.names r2.kids
    | none => none)
  else
    F9j0 n a0 a2 r1.kind r1.b r1.n r1.s r1.names r1.kids)
  | none => none)

noncomputable def c9 : Code := Tryd.f9.body.getD .skip

noncomputable def G9 (n : Nat) : Ctx (Res [.bool]) := ent 12 [] [.bool] (fun x => A12 ) (ent 13 [.str] [.slice .str, .int .i64, .bool] (fun x => F13 n x) (ent 18 [.slice .str] [.str] (fun x => F18 n x) (ent 24 [.slice (.int .i64)] [.value] (fun x => F24 n x) (ent 25 [.value] [.ref (.pair (.slice (.pair (.pair (.int .i64) (.pair .bool (.pair (.int .i64) (.pair .str (.pair .str (.pair (.int .i64) (.pair (.int .i64) .unit))))))) (.pair (.int .i64) (.pair (.int .i64) .unit)))) .unit)] (fun x => F25 n x) (ent 28 [.ref (.pair (.slice (.pair (.pair (.int .i64) (.pair .bool (.pair (.int .i64) (.pair .str (.pair .str (.pair (.int .i64) (.pair (.int .i64) .unit))))))) (.pair (.int .i64) (.pair (.int .i64) .unit)))) .unit), .slice .str] [.int .i64, .int .i64] (fun x => F28 n x.1 x.2) (ent 30 [.slice (.int .i64)] [.value] (fun x => F30 n x) (ent 31 [.int .i64, .int .i64] [.int .i64] (fun x => F31 n x.1 x.2) (ent 32 [.ref (.pair (.slice (.pair (.pair (.int .i64) (.pair .bool (.pair (.int .i64) (.pair .str (.pair .str (.pair (.int .i64) (.pair (.int .i64) .unit))))))) (.pair (.int .i64) (.pair (.int .i64) .unit)))) .unit)] [.int .i64] (fun x => F32 n x) (ent 33 [.ref (.pair (.slice (.pair (.pair (.int .i64) (.pair .bool (.pair (.int .i64) (.pair .str (.pair .str (.pair (.int .i64) (.pair (.int .i64) .unit))))))) (.pair (.int .i64) (.pair (.int .i64) .unit)))) .unit), .int .i64] [.slice .str] (fun x => F33 n x.1 x.2) (noFns))))))))))

theorem GO9 (n : Nat) : CtxOK Tryd.prog lay0 (G9 n) := ent_ok TA12 (fun _ _ h => h) (ent_ok (T13 n) (fun _ _ h => h) (ent_ok (T18 n) (fun _ _ h => h) (ent_ok (T24 n) (fun _ _ h => h) (ent_ok (T25 n) (fun _ _ h => h) (ent_ok (T28 n) (fun _ _ h => h) (ent_ok (T30 n) (fun _ _ h => h) (ent_ok (T31 n) (fun _ _ h => h) (ent_ok (T32 n) (fun _ _ h => h) (ent_ok (T33 n) (fun _ _ h => h) (noFns_ok))))))))))

noncomputable def P9 (n : Nat) : Pl (Res [.bool]) :=
  (.two .leaf (.two .leaf (.join [.val (.tmp 0) (.slice (.int .i64)), .val (.tmp 2) (.int .i64), .ptr (.tmp 7) 7 0, .val (.cell 7 0) (.int .i64), .val (.cell 7 1) .bool, .val (.cell 7 2) (.int .i64), .val (.cell 7 3) .str, .val (.cell 7 4) (.slice .str), .val (.cell 7 5) (.slice .value), .box 7 6] (fun x => F9j0 n x.1 x.2.1 x.2.2.2.1 x.2.2.2.2.1 x.2.2.2.2.2.1 x.2.2.2.2.2.2.1 x.2.2.2.2.2.2.2.1 x.2.2.2.2.2.2.2.2.1) .leaf .leaf)))

theorem K9 (n : Nat) : PlOK (G9 n) noInl lay0 76 (P9 n) c9 (fnK lay0 [.tmp 6] [.val (.slice (.int .i64)), .val .bool, .val (.int .i64)] [.val .bool] [.bool]) :=
  ⟨trivial, ⟨trivial, ⟨by kernel_rfl, fun x => by kernel_rfl, trivial, trivial⟩⟩⟩

theorem E9 (n : Nat) (a0 : List Int) (a1 : Bool) (a2 : Int) : F9 n a0 a1 a2 = fnE [.val (.slice (.int .i64)), .val .bool, .val (.int .i64)] (argDs [.slice (.int .i64), .bool, .int .i64] (a0, a1, a2)) (fun st => ev (G9 n) noInl lay0 76 c9 (P9 n) st (fnK lay0 [.tmp 6] [.val (.slice (.int .i64)), .val .bool, .val (.int .i64)] [.val .bool] [.bool])) := by kernel_rfl

theorem T9 (n : Nat) : Told Tryd.prog 9 [.slice (.int .i64), .bool, .int .i64] [.bool] (fun x => F9 n x.1 x.2.1 x.2.2) := by
  rintro ⟨a0, a1, a2⟩ r h
  exact calls_plain (fn_sound lay0_ok mixed (rvs := [.tmp 6]) (by kernel_rfl : Tryd.prog.funcs[9]? = some Tryd.f9) (by kernel_rfl : Tryd.f9.body = some c9) (by kernel_rfl) (by kernel_rfl) (by kernel_rfl) (GO9 n) noInl_ok (K9 n) ((E9 n a0 a1 a2).symm.trans h)) rfl rfl rfl rfl

/-! ### orthoepy/orthoepylaw25.PointerLonger -/

def F10l0F (n : Nat) (rF10l0 : List Int → Option (List ((Int × (Bool × (Int × (List UInt8 × (List UInt8 × (Int × (Int × Unit))))))) × (Int × (Int × Unit))) × Unit) → List (List UInt8) → Int → Option (Bool)) (t1 : List Int) (t5 : Option (List ((Int × (Bool × (Int × (List UInt8 × (List UInt8 × (Int × (Int × Unit))))))) × (Int × (Int × Unit))) × Unit)) (t6 : List (List UInt8)) (t7 : Int) : Option (Bool) :=
  (bif (decide (t7 < ((t1).length : Int))) then
    (bif inB t7 (t1).length then
    (match F27 n ((t1).getD (Int.toNat t7) (Ty.dflt (.int .i64))) with
    | some r6 =>
    (bif (decide (((t6).length + (([r6] : List (List UInt8))).length) * 16 ≤ maxRoom) && decide ((t6).length + (([r6] : List (List UInt8))).length ≤ maxRoom)) then
    rF10l0 t1 t5 (t6 ++ ([r6] : List (List UInt8))) (IntKind.wrap .i64 (t7 + 1))
    else none)
    | none => none)
    else none)
  else
    (match F28 n t5 t6 with
    | some r7 =>
    (bif (decide (r7.2 < 0)) then
      some false
    else
      (bif (decide (r7.2 > ((t6).length : Int))) then
        some false
      else
        (bif (!((decide (r7.1 ≥ 0)) == (r7.2 == ((t6).length : Int)))) then
          some false
        else
          (bif (decide (r7.1 < 0)) then
            (bif (cutB 0 r7.2 (t6).length && true) then
            (match F28 n t5 (((t6).drop (Int.toNat 0)).take (Int.toNat r7.2 - Int.toNat 0)) with
            | some r8 =>
            (bif (cutB 0 (IntKind.wrap .i64 (r7.2 + 1)) (t6).length && true) then
            (match F28 n t5 (((t6).drop (Int.toNat 0)).take (Int.toNat (IntKind.wrap .i64 (r7.2 + 1)) - Int.toNat 0)) with
            | some r9 =>
            (bif (decide (r8.1 ≥ 0)) then
              (bif (r8.2 == r7.2) then
                (bif (r9.1 == (-1)) then
                  (bif (r9.2 == r7.2) then
                    (match A12 with
                    | some r10 =>
                    some r10
                    | none => none)
                  else
                    some false)
                else
                  some false)
              else
                some false)
            else
              some false)
            | none => none)
            else none)
            | none => none)
            else none)
          else
            (bif (r7.2 == 0) then
              (bif (r7.1 == 0) then
                (match A12 with
                | some r11 =>
                some r11
                | none => none)
              else
                some false)
            else
              (bif (cutB 0 (IntKind.wrap .i64 (r7.2 - 1)) (t6).length && true) then
              (match F28 n t5 (((t6).drop (Int.toNat 0)).take (Int.toNat (IntKind.wrap .i64 (r7.2 - 1)) - Int.toNat 0)) with
              | some r12 =>
              (match F34 n t5 r7.1 with
              | some r13 =>
              (bif (r12.1 == r13) then
                (bif (r12.2 == (IntKind.wrap .i64 (r7.2 - 1))) then
                  (match A12 with
                  | some r14 =>
                  some r14
                  | none => none)
                else
                  some false)
              else
                some false)
              | none => none)
              | none => none)
              else none))))))
    | none => none))
def F10l0 (n : Nat) : Nat → List Int → Option (List ((Int × (Bool × (Int × (List UInt8 × (List UInt8 × (Int × (Int × Unit))))))) × (Int × (Int × Unit))) × Unit) → List (List UInt8) → Int → Option (Bool)
  | 0, _, _, _, _ => none
  | m + 1, t1, t5, t6, t7 => F10l0F n (F10l0 n m) t1 t5 t6 t7

def F10 (n : Nat) (a0 : List Int) (a1 : List Int) : Option (Bool) :=
  (match F24 n a0 with
  | some r1 =>
  (match F25 n r1 with
  | some r2 =>
  (bif (Option.isNone r2) then
    (bif (!(Option.isNone r2)) then
      (match A12 with
      | some r3 =>
      some r3
      | none => none)
    else
      some false)
  else
    (bif (decide (((a0).length : Int) > 60)) then
      (bif (!(Option.isNone r2)) then
        (match A12 with
        | some r4 =>
        some r4
        | none => none)
      else
        some false)
    else
      (bif (decide (((a1).length : Int) > 8)) then
        (bif (!(Option.isNone r2)) then
          (match A12 with
          | some r5 =>
          some r5
          | none => none)
        else
          some false)
      else
        F10l0 n n a1 r2 ([] : List (List UInt8)) 0)))
  | none => none)
  | none => none)

noncomputable def lay10 : Lay := layOf layL [] true
theorem lay10_ok : LayOK Tryd.prog lay10 := layOf_ok layAll (by simp) layEq

noncomputable def c10 : Code := Tryd.f10.body.getD .skip

noncomputable def G10 (n : Nat) : Ctx (Res [.bool]) := ent 12 [] [.bool] (fun x => A12 ) (ent 24 [.slice (.int .i64)] [.value] (fun x => F24 n x) (ent 25 [.value] [.ref (.pair (.slice (.pair (.pair (.int .i64) (.pair .bool (.pair (.int .i64) (.pair .str (.pair .str (.pair (.int .i64) (.pair (.int .i64) .unit))))))) (.pair (.int .i64) (.pair (.int .i64) .unit)))) .unit)] (fun x => F25 n x) (ent 27 [.int .i64] [.str] (fun x => F27 n x) (ent 28 [.ref (.pair (.slice (.pair (.pair (.int .i64) (.pair .bool (.pair (.int .i64) (.pair .str (.pair .str (.pair (.int .i64) (.pair (.int .i64) .unit))))))) (.pair (.int .i64) (.pair (.int .i64) .unit)))) .unit), .slice .str] [.int .i64, .int .i64] (fun x => F28 n x.1 x.2) (ent 34 [.ref (.pair (.slice (.pair (.pair (.int .i64) (.pair .bool (.pair (.int .i64) (.pair .str (.pair .str (.pair (.int .i64) (.pair (.int .i64) .unit))))))) (.pair (.int .i64) (.pair (.int .i64) .unit)))) .unit), .int .i64] [.int .i64] (fun x => F34 n x.1 x.2) (noFns))))))

theorem GO10 (n : Nat) : CtxOK Tryd.prog lay10 (G10 n) := ent_ok TA12 (fun _ _ h => h) (ent_ok (T24 n) (fun _ _ h => h) (ent_ok (T25 n) (fun _ _ h => h) (ent_ok (T27 n) (fun _ _ h => h) (ent_ok (T28 n) (fun _ _ h => h) (ent_ok (T34 n) (fun _ _ h => h) (noFns_ok))))))

noncomputable def P10 (n : Nat) : Pl (Res [.bool]) :=
  (.two .leaf (.two .leaf (.two .leaf (.two .leaf (.two (.two .leaf (.one (.loop [.val (.tmp 1) (.slice (.int .i64)), .val (.tmp 5) (.ref (.pair (.slice (.pair (.pair (.int .i64) (.pair .bool (.pair (.int .i64) (.pair .str (.pair .str (.pair (.int .i64) (.pair (.int .i64) .unit))))))) (.pair (.int .i64) (.pair (.int .i64) .unit)))) .unit)), .vec (.tmp 6) 20000000 9 .str, .val (.tmp 7) (.int .i64)] n (fun m x => F10l0 n m x.1 x.2.1 x.2.2.1 x.2.2.2.1) (fun _ => .leaf)))) .leaf)))))

theorem K10 (n : Nat) : PlOK (G10 n) noInl lay10 141 (P10 n) c10 (fnK lay10 [.tmp 4] [.val (.slice (.int .i64)), .val (.slice (.int .i64))] [.val .bool] [.bool]) :=
  ⟨trivial, ⟨trivial, ⟨trivial, ⟨trivial, ⟨⟨trivial, ⟨by kernel_rfl, fun x => by kernel_rfl, fun m => ⟨fun x => by kernel_rfl, trivial⟩⟩⟩, trivial⟩⟩⟩⟩⟩

theorem E10 (n : Nat) (a0 : List Int) (a1 : List Int) : F10 n a0 a1 = fnE [.val (.slice (.int .i64)), .val (.slice (.int .i64))] (argDs [.slice (.int .i64), .slice (.int .i64)] (a0, a1)) (fun st => ev (G10 n) noInl lay10 141 c10 (P10 n) st (fnK lay10 [.tmp 4] [.val (.slice (.int .i64)), .val (.slice (.int .i64))] [.val .bool] [.bool])) := by kernel_rfl

theorem T10 (n : Nat) : Told Tryd.prog 10 [.slice (.int .i64), .slice (.int .i64)] [.bool] (fun x => F10 n x.1 x.2) := by
  rintro ⟨a0, a1⟩ r h
  exact calls_plain (fn_sound lay10_ok mixed (rvs := [.tmp 4]) (by kernel_rfl : Tryd.prog.funcs[10]? = some Tryd.f10) (by kernel_rfl : Tryd.f10.body = some c10) (by kernel_rfl) (by kernel_rfl) (by kernel_rfl) (GO10 n) noInl_ok (K10 n) ((E10 n a0 a1).symm.trans h)) rfl rfl rfl rfl

end Go.Proofs.YtaeamjhgfhcjdaaDoor.Ab
