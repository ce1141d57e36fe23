/- Functions of the program as Lean functions. Printed by wip/gen/gen3.py. -/
import Derived.Test.YtllhidkadhoipaaDoorFH8
namespace Go.Proofs.YtllhidkadhoipaaDoor.Ab
open Go Go.RowKit Go.Proofs Go.Proofs.YtllhidkadhoipaaDoor.Ab.Fh
set_option maxRecDepth 100000
set_option maxHeartbeats 4000000
set_option linter.unusedVariables false

/-! ### orthoepy/orthoepylaw14.awake -/

def F7 (n : Nat) : Option (Bool) :=
  (match F8 n 11 7 with
  | some r1 =>
  (match F10 n r1 ([112, 97, 116, 99, 104] : List UInt8) with
  | some r2 =>
  (match F12 n r2 1 with
  | some r3 =>
  (match F14 n r3 with
  | some r4 =>
  (match F15 n r2 with
  | some r5 =>
  (bif (r5 == ([112, 97, 116, 99, 104, 58, 32, 100, 101, 112, 116, 104, 32, 55] : List UInt8)) then
    (bif (Ty.beq (.pair (.int .i64) (.pair (.int .i64) (.pair (.int .i64) .unit))) r4 (11, (7, (1, ())))) then
      (match F16 n r2 11 with
      | some r6 =>
      (bif r6 then
        (match F16 n r2 12 with
        | some r7 =>
        (bif (!r7) then
          (match F8 n 0 3 with
          | some r8 =>
          (bif (Er.isNil r8) then
            (match F17 n 19 with
            | some r9 =>
            (bif (r9 == ([108, 105, 110, 101] : List UInt8)) then
              (match F14 n Er.nil with
              | some r10 =>
              (bif (Ty.beq (.pair (.int .i64) (.pair (.int .i64) (.pair (.int .i64) .unit))) r10 (0, (0, (0, ())))) then
                (match F15 n Er.nil with
                | some r11 =>
                (bif (r11 == ([] : List UInt8)) then
                  (match F16 n Er.nil 0 with
                  | some r12 =>
                  some (!r12)
                  | none => none)
                else
                  some false)
                | none => none)
              else
                some false)
              | none => none)
            else
              some false)
            | none => none)
          else
            some false)
          | none => none)
        else
          some false)
        | none => none)
      else
        some false)
      | none => none)
    else
      some false)
  else
    some false)
  | none => none)
  | none => none)
  | none => none)
  | none => none)
  | none => none)

noncomputable def c7 : Code := Tryd.f7.body.getD .skip

noncomputable def G7 (n : Nat) : Ctx (Res [.bool]) := ent 8 [.int .i64, .int .i64] [.err] (fun x => F8 n x.1 x.2) (ent 10 [.err, .str] [.err] (fun x => F10 n x.1 x.2) (ent 12 [.err, .int .i64] [.err] (fun x => F12 n x.1 x.2) (ent 14 [.err] [.pair (.int .i64) (.pair (.int .i64) (.pair (.int .i64) .unit))] (fun x => F14 n x) (ent 15 [.err] [.str] (fun x => F15 n x) (ent 16 [.err, .int .i64] [.bool] (fun x => F16 n x.1 x.2) (ent 17 [.int .i64] [.str] (fun x => F17 n x) (noFns)))))))

theorem GO7 (n : Nat) : CtxOK Tryd.prog lay0 (G7 n) := ent_ok (T8 n) (fun _ _ h => h) (ent_ok (T10 n) (fun _ _ h => h) (ent_ok (T12 n) (fun _ _ h => h) (ent_ok (T14 n) (fun _ _ h => h) (ent_ok (T15 n) (fun _ _ h => h) (ent_ok (T16 n) (fun _ _ h => h) (ent_ok (T17 n) (fun _ _ h => h) (noFns_ok)))))))

noncomputable def P7 (n : Nat) : Pl (Res [.bool]) :=
  .leaf

theorem K7 (n : Nat) : PlOK (G7 n) noInl lay0 46 (P7 n) c7 (fnK lay0 [.tmp 0] [] [.val .bool] [.bool]) :=
  trivial

theorem E7 (n : Nat) : F7 n = fnE [] (argDs [] ()) (fun st => ev (G7 n) noInl lay0 46 c7 (P7 n) st (fnK lay0 [.tmp 0] [] [.val .bool] [.bool])) := by kernel_rfl

theorem T7 (n : Nat) : Told Tryd.prog 7 [] [.bool] (fun x => F7 n) := by
  rintro _ r h
  exact calls_plain (fn_sound lay0_ok mixed (rvs := [.tmp 0]) (by kernel_rfl : Tryd.prog.funcs[7]? = some Tryd.f7) (by kernel_rfl : Tryd.f7.body = some c7) (by kernel_rfl) (by kernel_rfl) (by kernel_rfl) (GO7 n) noInl_ok (K7 n) ((E7 n).symm.trans h)) rfl rfl rfl rfl

/-- With so much fuel. -/
def A7 := F7 1000
theorem TA7 : Told Tryd.prog 7 [] [.bool] (fun x => A7) := T7 1000

/-! ### orthoepy/orthoepylaw14.FaultPlays -/

def F3j3 (n : Nat) (rF3l1 : List (List UInt8) → List Int → Int → Er → Int → Bool → Int → Int → Int → List UInt8 → Option (Bool)) (t2 : List (List UInt8)) (t3 : List Int) (t4 : Int) (t12 : Er) (t14 : Int) (b13_0 : Bool) (b13_1 : Int) (b13_2 : Int) (b13_3 : Int) (b13_4 : List UInt8) : Option (Bool) :=
  (bif (!((!(Er.isNil t12)) == b13_0)) then
    some false
  else
    (match F14 n t12 with
    | some r12 =>
    (bif (!(Ty.beq (.pair (.int .i64) (.pair (.int .i64) (.pair (.int .i64) .unit))) r12 (b13_1, (b13_2, (b13_3, ()))))) then
      some false
    else
      (match F15 n t12 with
      | some r13 =>
      (bif (!(r13 == b13_4)) then
        some false
      else
        (match F16 n t12 t4 with
        | some r14 =>
        (bif b13_0 then
          (bif (!(r14 == (b13_1 == t4))) then
            some false
          else
            (match F16 n t12 b13_1 with
            | some r15 =>
            (bif (!(r15 == b13_0)) then
              some false
            else
              rF3l1 t2 t3 t4 t12 (IntKind.wrap .i64 (t14 + 1)) b13_0 b13_1 b13_2 b13_3 b13_4)
            | none => none))
        else
          (bif (!(r14 == false)) then
            some false
          else
            (match F16 n t12 b13_1 with
            | some r16 =>
            (bif (!(r16 == b13_0)) then
              some false
            else
              rF3l1 t2 t3 t4 t12 (IntKind.wrap .i64 (t14 + 1)) b13_0 b13_1 b13_2 b13_3 b13_4)
            | none => none)))
        | none => none))
      | none => none))
    | none => none))

def F3j2 (n : Nat) (rF3l1 : List (List UInt8) → List Int → Int → Er → Int → Bool → Int → Int → Int → List UInt8 → Option (Bool)) (t2 : List (List UInt8)) (t3 : List Int) (t4 : Int) (t12 : Er) (t14 : Int) (b13_0 : Bool) (b13_1 : Int) (b13_2 : Int) (b13_3 : Int) (b13_4 : List UInt8) : Option (Bool) :=
  (bif (decide (t14 < ((t3).length : Int))) then
    (bif inB t14 (t3).length then
    (match F12 n t12 ((t3).getD (Int.toNat t14) (Ty.dflt (.int .i64))) with
    | some r10 =>
    (bif inB t14 (t3).length then
    (match F13 n (b13_0, ((b13_1, (b13_2, (b13_3, ()))), (b13_4, ()))) ((t3).getD (Int.toNat t14) (Ty.dflt (.int .i64))) with
    | some r11 =>
    F3j3 n rF3l1 t2 t3 t4 r10 t14 r11.1 r11.2.1.1 r11.2.1.2.1 r11.2.1.2.2.1 r11.2.2.1
    | none => none)
    else none)
    | none => none)
    else none)
  else
    F3j3 n rF3l1 t2 t3 t4 t12 t14 b13_0 b13_1 b13_2 b13_3 b13_4)

def F3l1F (n : Nat) (rF3l1 : List (List UInt8) → List Int → Int → Er → Int → Bool → Int → Int → Int → List UInt8 → Option (Bool)) (t2 : List (List UInt8)) (t3 : List Int) (t4 : Int) (t12 : Er) (t14 : Int) (b13_0 : Bool) (b13_1 : Int) (b13_2 : Int) (b13_3 : Int) (b13_4 : List UInt8) : Option (Bool) :=
  (bif (decide (t14 < (if ((t3).length : Int) > ((t2).length : Int) then ((t3).length : Int) else ((t2).length : Int)))) then
    (bif (decide (t14 < ((t2).length : Int))) then
      (bif inB t14 (t2).length then
      (match F10 n t12 ((t2).getD (Int.toNat t14) (Ty.dflt .str)) with
      | some r8 =>
      (bif inB t14 (t2).length then
      (match F11 n (b13_0, ((b13_1, (b13_2, (b13_3, ()))), (b13_4, ()))) ((t2).getD (Int.toNat t14) (Ty.dflt .str)) with
      | some r9 =>
      F3j2 n rF3l1 t2 t3 t4 r8 t14 r9.1 r9.2.1.1 r9.2.1.2.1 r9.2.1.2.2.1 r9.2.2.1
      | none => none)
      else none)
      | none => none)
      else none)
    else
      F3j2 n rF3l1 t2 t3 t4 t12 t14 b13_0 b13_1 b13_2 b13_3 b13_4)
  else
    (match A7 with
    | some r17 =>
    some r17
    | none => none))
def F3l1 (n : Nat) : Nat → List (List UInt8) → List Int → Int → Er → Int → Bool → Int → Int → Int → List UInt8 → Option (Bool)
  | 0, _, _, _, _, _, _, _, _, _, _ => none
  | m + 1, t2, t3, t4, t12, t14, b13_0, b13_1, b13_2, b13_3, b13_4 => F3l1F n (F3l1 n m) t2 t3 t4 t12 t14 b13_0 b13_1 b13_2 b13_3 b13_4

def F3l0F (n : Nat) (rF3l0 : Int → Int → List (List UInt8) → List Int → Int → Int → Option (Bool)) (t0 : Int) (t1 : Int) (t2 : List (List UInt8)) (t3 : List Int) (t4 : Int) (t11 : Int) : Option (Bool) :=
  (bif (decide (t11 < ((t2).length : Int))) then
    (bif inB t11 (t2).length then
    (bif (decide (((((t2).getD (Int.toNat t11) (Ty.dflt .str))).length : Int) > 60)) then
      (match A7 with
      | some r5 =>
      some r5
      | none => none)
    else
      rF3l0 t0 t1 t2 t3 t4 (IntKind.wrap .i64 (t11 + 1)))
    else none)
  else
    (match F8 n t0 t1 with
    | some r6 =>
    (match F9 n t0 t1 with
    | some r7 =>
    F3l1 n n t2 t3 t4 r6 0 r7.1 r7.2.1.1 r7.2.1.2.1 r7.2.1.2.2.1 r7.2.2.1
    | none => none)
    | none => none))
def F3l0 (n : Nat) : Nat → Int → Int → List (List UInt8) → List Int → Int → Int → Option (Bool)
  | 0, _, _, _, _, _, _ => none
  | m + 1, t0, t1, t2, t3, t4, t11 => F3l0F n (F3l0 n m) t0 t1 t2 t3 t4 t11

def F3 (n : Nat) (a0 : Int) (a1 : Int) (a2 : List (List UInt8)) (a3 : List Int) (a4 : Int) : Option (Bool) :=
  (bif (decide (((a2).length : Int) > 20)) then
    (match A7 with
    | some r1 =>
    some r1
    | none => none)
  else
    (bif (decide (((a3).length : Int) > 20)) then
      (match A7 with
      | some r2 =>
      some r2
      | none => none)
    else
      (bif (decide (a0 < 0)) then
        (match A7 with
        | some r3 =>
        some r3
        | none => none)
      else
        (bif (decide (a0 > 19)) then
          (match A7 with
          | some r4 =>
          some r4
          | none => none)
        else
          F3l0 n n a0 a1 a2 a3 a4 0))))

noncomputable def c3 : Code := Tryd.f3.body.getD .skip

noncomputable def G3 (n : Nat) : Ctx (Res [.bool]) := ent 7 [] [.bool] (fun x => A7 ) (ent 8 [.int .i64, .int .i64] [.err] (fun x => F8 n x.1 x.2) (ent 9 [.int .i64, .int .i64] [.pair .bool (.pair (.pair (.int .i64) (.pair (.int .i64) (.pair (.int .i64) .unit))) (.pair .str .unit))] (fun x => F9 n x.1 x.2) (ent 10 [.err, .str] [.err] (fun x => F10 n x.1 x.2) (ent 11 [.pair .bool (.pair (.pair (.int .i64) (.pair (.int .i64) (.pair (.int .i64) .unit))) (.pair .str .unit)), .str] [.pair .bool (.pair (.pair (.int .i64) (.pair (.int .i64) (.pair (.int .i64) .unit))) (.pair .str .unit))] (fun x => F11 n x.1 x.2) (ent 12 [.err, .int .i64] [.err] (fun x => F12 n x.1 x.2) (ent 13 [.pair .bool (.pair (.pair (.int .i64) (.pair (.int .i64) (.pair (.int .i64) .unit))) (.pair .str .unit)), .int .i64] [.pair .bool (.pair (.pair (.int .i64) (.pair (.int .i64) (.pair (.int .i64) .unit))) (.pair .str .unit))] (fun x => F13 n x.1 x.2) (ent 14 [.err] [.pair (.int .i64) (.pair (.int .i64) (.pair (.int .i64) .unit))] (fun x => F14 n x) (ent 15 [.err] [.str] (fun x => F15 n x) (ent 16 [.err, .int .i64] [.bool] (fun x => F16 n x.1 x.2) (noFns))))))))))

theorem GO3 (n : Nat) : CtxOK Tryd.prog lay0 (G3 n) := ent_ok TA7 (fun _ _ h => h) (ent_ok (T8 n) (fun _ _ h => h) (ent_ok (T9 n) (fun _ _ h => h) (ent_ok (T10 n) (fun _ _ h => h) (ent_ok (T11 n) (fun _ _ h => h) (ent_ok (T12 n) (fun _ _ h => h) (ent_ok (T13 n) (fun _ _ h => h) (ent_ok (T14 n) (fun _ _ h => h) (ent_ok (T15 n) (fun _ _ h => h) (ent_ok (T16 n) (fun _ _ h => h) (noFns_ok))))))))))

noncomputable def P3 (n : Nat) : Pl (Res [.bool]) :=
  (.two .leaf (.two .leaf (.two (.two .leaf (.one (.loop [.val (.tmp 0) (.int .i64), .val (.tmp 1) (.int .i64), .val (.tmp 2) (.slice .str), .val (.tmp 3) (.slice (.int .i64)), .val (.tmp 4) (.int .i64), .val (.tmp 11) (.int .i64)] n (fun m x => F3l0 n m x.1 x.2.1 x.2.2.1 x.2.2.2.1 x.2.2.2.2.1 x.2.2.2.2.2.1) (fun _ => .leaf)))) (.two .leaf (.two (.two .leaf (.one (.loop [.val (.tmp 2) (.slice .str), .val (.tmp 3) (.slice (.int .i64)), .val (.tmp 4) (.int .i64), .val (.tmp 12) .err, .ptr (.tmp 13) 13 0, .val (.tmp 14) (.int .i64), .val (.cell 13 0) .bool, .val (.cell 13 1) (.int .i64), .val (.cell 13 2) (.int .i64), .val (.cell 13 3) (.int .i64), .val (.cell 13 4) .str, .box 13 5] n (fun m x => F3l1 n m x.1 x.2.1 x.2.2.1 x.2.2.2.1 x.2.2.2.2.2.1 x.2.2.2.2.2.2.1 x.2.2.2.2.2.2.2.1 x.2.2.2.2.2.2.2.2.1 x.2.2.2.2.2.2.2.2.2.1 x.2.2.2.2.2.2.2.2.2.2.1) (fun r => let rF3l1 : List (List UInt8) → List Int → Int → Er → Int → Bool → Int → Int → Int → List UInt8 → Option (Bool) := (fun y0 y1 y2 y3 y4 y5 y6 y7 y8 y9 => r (y0, y1, y2, y3, (), y4, y5, y6, y7, y8, y9, (), ())); (.two .leaf (.two (.one (.join [.val (.tmp 2) (.slice .str), .val (.tmp 3) (.slice (.int .i64)), .val (.tmp 4) (.int .i64), .val (.tmp 12) .err, .ptr (.tmp 13) 13 0, .val (.tmp 14) (.int .i64), .val (.cell 13 0) .bool, .val (.cell 13 1) (.int .i64), .val (.cell 13 2) (.int .i64), .val (.cell 13 3) (.int .i64), .val (.cell 13 4) .str, .box 13 5] (fun x => F3j2 n rF3l1 x.1 x.2.1 x.2.2.1 x.2.2.2.1 x.2.2.2.2.2.1 x.2.2.2.2.2.2.1 x.2.2.2.2.2.2.2.1 x.2.2.2.2.2.2.2.2.1 x.2.2.2.2.2.2.2.2.2.1 x.2.2.2.2.2.2.2.2.2.2.1) .leaf (.join [.val (.tmp 2) (.slice .str), .val (.tmp 3) (.slice (.int .i64)), .val (.tmp 4) (.int .i64), .val (.tmp 12) .err, .ptr (.tmp 13) 13 0, .val (.tmp 14) (.int .i64), .val (.cell 13 0) .bool, .val (.cell 13 1) (.int .i64), .val (.cell 13 2) (.int .i64), .val (.cell 13 3) (.int .i64), .val (.cell 13 4) .str, .box 13 5] (fun x => F3j3 n rF3l1 x.1 x.2.1 x.2.2.1 x.2.2.2.1 x.2.2.2.2.2.1 x.2.2.2.2.2.2.1 x.2.2.2.2.2.2.2.1 x.2.2.2.2.2.2.2.2.1 x.2.2.2.2.2.2.2.2.2.1 x.2.2.2.2.2.2.2.2.2.2.1) .leaf .leaf))) .leaf)))))) .leaf)))))

theorem K3 (n : Nat) : PlOK (G3 n) noInl lay0 137 (P3 n) c3 (fnK lay0 [.tmp 10] [.val (.int .i64), .val (.int .i64), .val (.slice .str), .val (.slice (.int .i64)), .val (.int .i64)] [.val .bool] [.bool]) :=
  ⟨trivial, ⟨trivial, ⟨⟨trivial, ⟨by kernel_rfl, fun x => by kernel_rfl, fun m => ⟨fun x => by kernel_rfl, trivial⟩⟩⟩, ⟨trivial, ⟨⟨trivial, ⟨by kernel_rfl, fun x => by kernel_rfl, fun m => ⟨fun x => by kernel_rfl, ⟨trivial, ⟨⟨by kernel_rfl, fun x => by kernel_rfl, trivial, ⟨by kernel_rfl, fun x => by kernel_rfl, trivial, trivial⟩⟩, trivial⟩⟩⟩⟩⟩, trivial⟩⟩⟩⟩⟩

theorem E3 (n : Nat) (a0 : Int) (a1 : Int) (a2 : List (List UInt8)) (a3 : List Int) (a4 : Int) : F3 n a0 a1 a2 a3 a4 = fnE [.val (.int .i64), .val (.int .i64), .val (.slice .str), .val (.slice (.int .i64)), .val (.int .i64)] (argDs [.int .i64, .int .i64, .slice .str, .slice (.int .i64), .int .i64] (a0, a1, a2, a3, a4)) (fun st => ev (G3 n) noInl lay0 137 c3 (P3 n) st (fnK lay0 [.tmp 10] [.val (.int .i64), .val (.int .i64), .val (.slice .str), .val (.slice (.int .i64)), .val (.int .i64)] [.val .bool] [.bool])) := by kernel_rfl

theorem T3 (n : Nat) : Told Tryd.prog 3 [.int .i64, .int .i64, .slice .str, .slice (.int .i64), .int .i64] [.bool] (fun x => F3 n x.1 x.2.1 x.2.2.1 x.2.2.2.1 x.2.2.2.2) := by
  rintro ⟨a0, a1, a2, a3, a4⟩ r h
  exact calls_plain (fn_sound lay0_ok mixed (rvs := [.tmp 10]) (by kernel_rfl : Tryd.prog.funcs[3]? = some Tryd.f3) (by kernel_rfl : Tryd.f3.body = some c3) (by kernel_rfl) (by kernel_rfl) (by kernel_rfl) (GO3 n) noInl_ok (K3 n) ((E3 n a0 a1 a2 a3 a4).symm.trans h)) rfl rfl rfl rfl

/-! ### orthoepy/orthoepylaw14.FaultNames -/

def F4j0 (n : Nat) (t0 : Int) (t1 : Int) (t5 : List UInt8) (t6 : List UInt8) (t7 : Bool) (t8 : Bool) : Option (Bool) :=
  (match F18 n t0 with
  | some r3 =>
  (bif (t5 == r3) then
    (bif ((!(t5 == ([] : List UInt8))) == t7) then
      (bif ((!(t6 == ([] : List UInt8))) == t8) then
        (bif (!t7) then
          (match A7 with
          | some r4 =>
          some r4
          | none => none)
        else
          (bif (!t8) then
            (match A7 with
            | some r5 =>
            some r5
            | none => none)
          else
            (bif ((t5 == t6) == (t0 == t1)) then
              (match A7 with
              | some r6 =>
              some r6
              | none => none)
            else
              some false)))
      else
        some false)
    else
      some false)
  else
    some false)
  | none => none)

def F4 (n : Nat) (a0 : Int) (a1 : Int) : Option (Bool) :=
  (match F17 n a0 with
  | some r1 =>
  (match F17 n a1 with
  | some r2 =>
  (bif (decide (a0 ≥ 0)) then
    (bif (decide (a1 ≥ 0)) then
      F4j0 n a0 a1 r1 r2 (decide (a0 ≤ 19)) (decide (a1 ≤ 19))
    else
      F4j0 n a0 a1 r1 r2 (decide (a0 ≤ 19)) false)
  else
    (bif (decide (a1 ≥ 0)) then
      F4j0 n a0 a1 r1 r2 false (decide (a1 ≤ 19))
    else
      F4j0 n a0 a1 r1 r2 false false))
  | none => none)
  | none => none)

noncomputable def c4 : Code := Tryd.f4.body.getD .skip

noncomputable def G4 (n : Nat) : Ctx (Res [.bool]) := ent 7 [] [.bool] (fun x => A7 ) (ent 17 [.int .i64] [.str] (fun x => F17 n x) (ent 18 [.int .i64] [.str] (fun x => F18 n x) (noFns)))

theorem GO4 (n : Nat) : CtxOK Tryd.prog lay0 (G4 n) := ent_ok TA7 (fun _ _ h => h) (ent_ok (T17 n) (fun _ _ h => h) (ent_ok (T18 n) (fun _ _ h => h) (noFns_ok)))

noncomputable def P4 (n : Nat) : Pl (Res [.bool]) :=
  (.two .leaf (.two .leaf (.join [.val (.tmp 0) (.int .i64), .val (.tmp 1) (.int .i64), .val (.tmp 5) .str, .val (.tmp 6) .str, .val (.tmp 7) .bool, .val (.tmp 8) .bool] (fun x => F4j0 n x.1 x.2.1 x.2.2.1 x.2.2.2.1 x.2.2.2.2.1 x.2.2.2.2.2.1) .leaf .leaf)))

theorem K4 (n : Nat) : PlOK (G4 n) noInl lay0 61 (P4 n) c4 (fnK lay0 [.tmp 4] [.val (.int .i64), .val (.int .i64)] [.val .bool] [.bool]) :=
  ⟨trivial, ⟨trivial, ⟨by kernel_rfl, fun x => by kernel_rfl, trivial, trivial⟩⟩⟩

theorem E4 (n : Nat) (a0 : Int) (a1 : Int) : F4 n a0 a1 = fnE [.val (.int .i64), .val (.int .i64)] (argDs [.int .i64, .int .i64] (a0, a1)) (fun st => ev (G4 n) noInl lay0 61 c4 (P4 n) st (fnK lay0 [.tmp 4] [.val (.int .i64), .val (.int .i64)] [.val .bool] [.bool])) := by kernel_rfl

theorem T4 (n : Nat) : Told Tryd.prog 4 [.int .i64, .int .i64] [.bool] (fun x => F4 n x.1 x.2) := by
  rintro ⟨a0, a1⟩ r h
  exact calls_plain (fn_sound lay0_ok mixed (rvs := [.tmp 4]) (by kernel_rfl : Tryd.prog.funcs[4]? = some Tryd.f4) (by kernel_rfl : Tryd.f4.body = some c4) (by kernel_rfl) (by kernel_rfl) (by kernel_rfl) (GO4 n) noInl_ok (K4 n) ((E4 n a0 a1).symm.trans h)) rfl rfl rfl rfl

/-! ### orthoepy/orthoepylaw14.FaultDeep -/

def F5l0F (n : Nat) (rF5l0 : Int → Int → List Int → Int → Er → Int → Int → Option (Bool)) (t1 : Int) (t2 : Int) (t3 : List Int) (t9 : Int) (t10 : Er) (t11 : Int) (t12 : Int) : Option (Bool) :=
  (bif (!(200 == 0)) then
  (bif (decide (t12 < (IntKind.wrap .i64 ((Int.tmod t2 200))))) then
    (match F10 n t10 ([120] : List UInt8) with
    | some r3 =>
    (bif (decide (t12 < ((t3).length : Int))) then
      (bif inB t12 (t3).length then
      (match F12 n r3 ((t3).getD (Int.toNat t12) (Ty.dflt (.int .i64))) with
      | some r4 =>
      (bif inB t12 (t3).length then
      rF5l0 t1 t2 t3 t9 r4 ((t3).getD (Int.toNat t12) (Ty.dflt (.int .i64))) (IntKind.wrap .i64 (t12 + 1))
      else none)
      | none => none)
      else none)
    else
      rF5l0 t1 t2 t3 t9 r3 t11 (IntKind.wrap .i64 (t12 + 1)))
    | none => none)
  else
    (match F14 n t10 with
    | some r5 =>
    (bif (!(Er.isNil t10)) then
      (bif (Ty.beq (.pair (.int .i64) (.pair (.int .i64) (.pair (.int .i64) .unit))) r5 (t9, (t1, (t11, ())))) then
        (match F16 n t10 t9 with
        | some r6 =>
        (bif r6 then
          (bif (!(19 == 0)) then
          (match F16 n t10 (IntKind.wrap .i64 ((Int.tmod t9 19) + 1)) with
          | some r7 =>
          (bif (!r7) then
            (match F15 n t10 with
            | some r8 =>
            (bif (!(200 == 0)) then
            (match F8 n t9 t1 with
            | some r9 =>
            (match F15 n r9 with
            | some r10 =>
            (bif (((r8).length : Int) == (IntKind.wrap .i64 ((IntKind.wrap .i64 (3 * (IntKind.wrap .i64 ((Int.tmod t2 200))))) + ((r10).length : Int)))) then
              (match A7 with
              | some r11 =>
              some r11
              | none => none)
            else
              some false)
            | none => none)
            | none => none)
            else none)
            | none => none)
          else
            some false)
          | none => none)
          else none)
        else
          some false)
        | none => none)
      else
        some false)
    else
      some false)
    | none => none))
  else none)
def F5l0 (n : Nat) : Nat → Int → Int → List Int → Int → Er → Int → Int → Option (Bool)
  | 0, _, _, _, _, _, _, _ => none
  | m + 1, t1, t2, t3, t9, t10, t11, t12 => F5l0F n (F5l0 n m) t1 t2 t3 t9 t10 t11 t12

def F5 (n : Nat) (a0 : Int) (a1 : Int) (a2 : Int) (a3 : List Int) : Option (Bool) :=
  (match F19 n a0 19 with
  | some r1 =>
  (match F8 n (IntKind.wrap .i64 (1 + r1)) a1 with
  | some r2 =>
  F5l0 n n a1 a2 a3 (IntKind.wrap .i64 (1 + r1)) r2 0 0
  | none => none)
  | none => none)

noncomputable def c5 : Code := Tryd.f5.body.getD .skip

noncomputable def G5 (n : Nat) : Ctx (Res [.bool]) := ent 7 [] [.bool] (fun x => A7 ) (ent 8 [.int .i64, .int .i64] [.err] (fun x => F8 n x.1 x.2) (ent 10 [.err, .str] [.err] (fun x => F10 n x.1 x.2) (ent 12 [.err, .int .i64] [.err] (fun x => F12 n x.1 x.2) (ent 14 [.err] [.pair (.int .i64) (.pair (.int .i64) (.pair (.int .i64) .unit))] (fun x => F14 n x) (ent 15 [.err] [.str] (fun x => F15 n x) (ent 16 [.err, .int .i64] [.bool] (fun x => F16 n x.1 x.2) (ent 19 [.int .i64, .int .i64] [.int .i64] (fun x => F19 n x.1 x.2) (noFns))))))))

theorem GO5 (n : Nat) : CtxOK Tryd.prog lay0 (G5 n) := ent_ok TA7 (fun _ _ h => h) (ent_ok (T8 n) (fun _ _ h => h) (ent_ok (T10 n) (fun _ _ h => h) (ent_ok (T12 n) (fun _ _ h => h) (ent_ok (T14 n) (fun _ _ h => h) (ent_ok (T15 n) (fun _ _ h => h) (ent_ok (T16 n) (fun _ _ h => h) (ent_ok (T19 n) (fun _ _ h => h) (noFns_ok))))))))

noncomputable def P5 (n : Nat) : Pl (Res [.bool]) :=
  (.two .leaf (.two .leaf (.two .leaf (.two .leaf (.two (.two .leaf (.one (.loop [.val (.tmp 1) (.int .i64), .val (.tmp 2) (.int .u8), .val (.tmp 3) (.slice (.int .i64)), .val (.tmp 9) (.int .i64), .val (.tmp 10) .err, .val (.tmp 11) (.int .i64), .val (.tmp 12) (.int .i64)] n (fun m x => F5l0 n m x.1 x.2.1 x.2.2.1 x.2.2.2.1 x.2.2.2.2.1 x.2.2.2.2.2.1 x.2.2.2.2.2.2.1) (fun _ => .leaf)))) .leaf)))))

theorem K5 (n : Nat) : PlOK (G5 n) noInl lay0 87 (P5 n) c5 (fnK lay0 [.tmp 8] [.val (.int .i64), .val (.int .i64), .val (.int .u8), .val (.slice (.int .i64))] [.val .bool] [.bool]) :=
  ⟨trivial, ⟨trivial, ⟨trivial, ⟨trivial, ⟨⟨trivial, ⟨by kernel_rfl, fun x => by kernel_rfl, fun m => ⟨fun x => by kernel_rfl, trivial⟩⟩⟩, trivial⟩⟩⟩⟩⟩

theorem E5 (n : Nat) (a0 : Int) (a1 : Int) (a2 : Int) (a3 : List Int) : F5 n a0 a1 a2 a3 = fnE [.val (.int .i64), .val (.int .i64), .val (.int .u8), .val (.slice (.int .i64))] (argDs [.int .i64, .int .i64, .int .u8, .slice (.int .i64)] (a0, a1, a2, a3)) (fun st => ev (G5 n) noInl lay0 87 c5 (P5 n) st (fnK lay0 [.tmp 8] [.val (.int .i64), .val (.int .i64), .val (.int .u8), .val (.slice (.int .i64))] [.val .bool] [.bool])) := by kernel_rfl

theorem T5 (n : Nat) : Told Tryd.prog 5 [.int .i64, .int .i64, .int .u8, .slice (.int .i64)] [.bool] (fun x => F5 n x.1 x.2.1 x.2.2.1 x.2.2.2) := by
  rintro ⟨a0, a1, a2, a3⟩ r h
  exact calls_plain (fn_sound lay0_ok mixed (rvs := [.tmp 8]) (by kernel_rfl : Tryd.prog.funcs[5]? = some Tryd.f5) (by kernel_rfl : Tryd.f5.body = some c5) (by kernel_rfl) (by kernel_rfl) (by kernel_rfl) (GO5 n) noInl_ok (K5 n) ((E5 n a0 a1 a2 a3).symm.trans h)) rfl rfl rfl rfl

/-! ### orthoepy/orthoepylaw14.FaultNone -/

def F6 (n : Nat) (a0 : Int) (a1 : List UInt8) (a2 : Int) (a3 : Int) : Option (Bool) :=
  (match F8 n 0 a0 with
  | some r1 =>
  (match F10 n r1 a1 with
  | some r2 =>
  (match F12 n r2 a2 with
  | some r3 =>
  (bif (Er.isNil r3) then
    (match F10 n Er.nil a1 with
    | some r4 =>
    (bif (Er.isNil r4) then
      (match F12 n Er.nil a2 with
      | some r5 =>
      (bif (Er.isNil r5) then
        (match F14 n r3 with
        | some r6 =>
        (bif (Ty.beq (.pair (.int .i64) (.pair (.int .i64) (.pair (.int .i64) .unit))) r6 (0, (0, (0, ())))) then
          (match F15 n r3 with
          | some r7 =>
          (bif (r7 == ([] : List UInt8)) then
            (match F16 n r3 a3 with
            | some r8 =>
            (bif (!r8) then
              (match A7 with
              | some r9 =>
              some r9
              | none => none)
            else
              some false)
            | none => none)
          else
            some false)
          | none => none)
        else
          some false)
        | none => none)
      else
        some false)
      | none => none)
    else
      some false)
    | none => none)
  else
    some false)
  | none => none)
  | none => none)
  | none => none)

noncomputable def c6 : Code := Tryd.f6.body.getD .skip

noncomputable def G6 (n : Nat) : Ctx (Res [.bool]) := ent 7 [] [.bool] (fun x => A7 ) (ent 8 [.int .i64, .int .i64] [.err] (fun x => F8 n x.1 x.2) (ent 10 [.err, .str] [.err] (fun x => F10 n x.1 x.2) (ent 12 [.err, .int .i64] [.err] (fun x => F12 n x.1 x.2) (ent 14 [.err] [.pair (.int .i64) (.pair (.int .i64) (.pair (.int .i64) .unit))] (fun x => F14 n x) (ent 15 [.err] [.str] (fun x => F15 n x) (ent 16 [.err, .int .i64] [.bool] (fun x => F16 n x.1 x.2) (noFns)))))))

theorem GO6 (n : Nat) : CtxOK Tryd.prog lay0 (G6 n) := ent_ok TA7 (fun _ _ h => h) (ent_ok (T8 n) (fun _ _ h => h) (ent_ok (T10 n) (fun _ _ h => h) (ent_ok (T12 n) (fun _ _ h => h) (ent_ok (T14 n) (fun _ _ h => h) (ent_ok (T15 n) (fun _ _ h => h) (ent_ok (T16 n) (fun _ _ h => h) (noFns_ok)))))))

noncomputable def P6 (n : Nat) : Pl (Res [.bool]) :=
  .leaf

theorem K6 (n : Nat) : PlOK (G6 n) noInl lay0 48 (P6 n) c6 (fnK lay0 [.tmp 8] [.val (.int .i64), .val .str, .val (.int .i64), .val (.int .i64)] [.val .bool] [.bool]) :=
  trivial

theorem E6 (n : Nat) (a0 : Int) (a1 : List UInt8) (a2 : Int) (a3 : Int) : F6 n a0 a1 a2 a3 = fnE [.val (.int .i64), .val .str, .val (.int .i64), .val (.int .i64)] (argDs [.int .i64, .str, .int .i64, .int .i64] (a0, a1, a2, a3)) (fun st => ev (G6 n) noInl lay0 48 c6 (P6 n) st (fnK lay0 [.tmp 8] [.val (.int .i64), .val .str, .val (.int .i64), .val (.int .i64)] [.val .bool] [.bool])) := by kernel_rfl

theorem T6 (n : Nat) : Told Tryd.prog 6 [.int .i64, .str, .int .i64, .int .i64] [.bool] (fun x => F6 n x.1 x.2.1 x.2.2.1 x.2.2.2) := by
  rintro ⟨a0, a1, a2, a3⟩ r h
  exact calls_plain (fn_sound lay0_ok mixed (rvs := [.tmp 8]) (by kernel_rfl : Tryd.prog.funcs[6]? = some Tryd.f6) (by kernel_rfl : Tryd.f6.body = some c6) (by kernel_rfl) (by kernel_rfl) (by kernel_rfl) (GO6 n) noInl_ok (K6 n) ((E6 n a0 a1 a2 a3).symm.trans h)) rfl rfl rfl rfl

end Go.Proofs.YtllhidkadhoipaaDoor.Ab
