/- Functions of the program as Lean functions. Printed by wip/gen/gen3.py. -/
import Derived.Test.YtoonknmckeggaaaGK
namespace Go.Proofs.Ytoonknmckeggaaa.Ab
open Go Go.RowKit Go.Proofs
set_option maxRecDepth 100000
set_option maxHeartbeats 4000000
set_option linter.unusedVariables false

/-! ### (*orthoepy/arena.Arena).Size -/

def F23l0F (n : Nat) (rF23l0 : Option (List ((Int × (Bool × (Int × (List UInt8 × (List UInt8 × (Int × (Int × Unit))))))) × (Int × (Int × Unit))) × Unit) → Int → List Int → Option (Int)) (t0 : Option (List ((Int × (Bool × (Int × (List UInt8 × (List UInt8 × (Int × (Int × Unit))))))) × (Int × (Int × Unit))) × Unit)) (t5 : Int) (t6 : List Int) : Option (Int) :=
  (bif (decide (((t6).length : Int) > 0)) then
    (bif inB (IntKind.wrap .i64 (((t6).length : Int) - 1)) (t6).length then
    (bif cutB 0 (IntKind.wrap .i64 (((t6).length : Int) - 1)) (t6).length then
    (match F20 n t0 ((t6).getD (Int.toNat (IntKind.wrap .i64 (((t6).length : Int) - 1))) (Ty.dflt (.int .i64))) with
    | some r2 =>
    (bif (decide (((((t6).take (Int.toNat (IntKind.wrap .i64 (((t6).length : Int) - 1))))).length + (r2).length) * 8 ≤ maxRoom) && decide ((((t6).take (Int.toNat (IntKind.wrap .i64 (((t6).length : Int) - 1))))).length + (r2).length ≤ maxRoom)) then
    rF23l0 t0 (IntKind.wrap .i64 (t5 + 1)) (((t6).take (Int.toNat (IntKind.wrap .i64 (((t6).length : Int) - 1)))) ++ r2)
    else none)
    | none => none)
    else none)
    else none)
  else
    some t5)
def F23l0 (n : Nat) : Nat → Option (List ((Int × (Bool × (Int × (List UInt8 × (List UInt8 × (Int × (Int × Unit))))))) × (Int × (Int × Unit))) × Unit) → Int → List Int → Option (Int)
  | 0, _, _, _ => none
  | m + 1, t0, t5, t6 => F23l0F n (F23l0 n m) t0 t5 t6

def F23 (n : Nat) (a0 : Option (List ((Int × (Bool × (Int × (List UInt8 × (List UInt8 × (Int × (Int × Unit))))))) × (Int × (Int × Unit))) × Unit)) (a1 : Int) : Option (Int) :=
  (match F24 n a0 a1 with
  | some r1 =>
  (bif (Option.isNone r1) then
    some 0
  else
    F23l0 n n a0 0 ([a1] : List Int))
  | none => none)

noncomputable def c23 : Code := Try.f23.body.getD .skip

noncomputable def G23 (n : Nat) : Ctx (Res [.int .i64]) := ent 20 [.ref (.pair (.slice (.pair (.pair (.int .i64) (.pair .bool (.pair (.int .i64) (.pair .str (.pair .str (.pair (.int .i64) (.pair (.int .i64) .unit))))))) (.pair (.int .i64) (.pair (.int .i64) .unit)))) .unit), .int .i64] [.slice (.int .i64)] (fun x => F20 n x.1 x.2) (ent 24 [.ref (.pair (.slice (.pair (.pair (.int .i64) (.pair .bool (.pair (.int .i64) (.pair .str (.pair .str (.pair (.int .i64) (.pair (.int .i64) .unit))))))) (.pair (.int .i64) (.pair (.int .i64) .unit)))) .unit), .int .i64] [.ref (.pair (.pair (.int .i64) (.pair .bool (.pair (.int .i64) (.pair .str (.pair .str (.pair (.int .i64) (.pair (.int .i64) .unit))))))) (.pair (.int .i64) (.pair (.int .i64) .unit)))] (fun x => F24 n x.1 x.2) (noFns))

theorem GO23 (n : Nat) : CtxOK Try.prog lay0 (G23 n) := ent_ok (T20 n) (fun _ _ h => h) (ent_ok (T24 n) (fun _ _ h => h) (noFns_ok))

noncomputable def P23 (n : Nat) : Pl (Res [.int .i64]) :=
  (.two .leaf (.two .leaf (.two .leaf (.two (.two .leaf (.one (.loop [.val (.tmp 0) (.ref (.pair (.slice (.pair (.pair (.int .i64) (.pair .bool (.pair (.int .i64) (.pair .str (.pair .str (.pair (.int .i64) (.pair (.int .i64) .unit))))))) (.pair (.int .i64) (.pair (.int .i64) .unit)))) .unit)), .val (.tmp 5) (.int .i64), .vec (.tmp 6) 20000000 3 (.int .i64)] n (fun m x => F23l0 n m x.1 x.2.1 x.2.2.1) (fun _ => .leaf)))) .leaf))))

theorem K23 (n : Nat) : PlOK (G23 n) noInl lay0 35 (P23 n) c23 (fnK lay0 [.tmp 4] [.val (.ref (.pair (.slice (.pair (.pair (.int .i64) (.pair .bool (.pair (.int .i64) (.pair .str (.pair .str (.pair (.int .i64) (.pair (.int .i64) .unit))))))) (.pair (.int .i64) (.pair (.int .i64) .unit)))) .unit)), .val (.int .i64)] [.val (.int .i64)] [.int .i64]) :=
  ⟨trivial, ⟨trivial, ⟨trivial, ⟨⟨trivial, ⟨by kernel_rfl, fun x => by kernel_rfl, fun m => ⟨fun x => by kernel_rfl, trivial⟩⟩⟩, trivial⟩⟩⟩⟩

theorem E23 (n : Nat) (a0 : Option (List ((Int × (Bool × (Int × (List UInt8 × (List UInt8 × (Int × (Int × Unit))))))) × (Int × (Int × Unit))) × Unit)) (a1 : Int) : F23 n a0 a1 = fnE [.val (.ref (.pair (.slice (.pair (.pair (.int .i64) (.pair .bool (.pair (.int .i64) (.pair .str (.pair .str (.pair (.int .i64) (.pair (.int .i64) .unit))))))) (.pair (.int .i64) (.pair (.int .i64) .unit)))) .unit)), .val (.int .i64)] (argDs [.ref (.pair (.slice (.pair (.pair (.int .i64) (.pair .bool (.pair (.int .i64) (.pair .str (.pair .str (.pair (.int .i64) (.pair (.int .i64) .unit))))))) (.pair (.int .i64) (.pair (.int .i64) .unit)))) .unit), .int .i64] (a0, a1)) (fun st => ev (G23 n) noInl lay0 35 c23 (P23 n) st (fnK lay0 [.tmp 4] [.val (.ref (.pair (.slice (.pair (.pair (.int .i64) (.pair .bool (.pair (.int .i64) (.pair .str (.pair .str (.pair (.int .i64) (.pair (.int .i64) .unit))))))) (.pair (.int .i64) (.pair (.int .i64) .unit)))) .unit)), .val (.int .i64)] [.val (.int .i64)] [.int .i64])) := by kernel_rfl

theorem T23 (n : Nat) : Told Try.prog 23 [.ref (.pair (.slice (.pair (.pair (.int .i64) (.pair .bool (.pair (.int .i64) (.pair .str (.pair .str (.pair (.int .i64) (.pair (.int .i64) .unit))))))) (.pair (.int .i64) (.pair (.int .i64) .unit)))) .unit), .int .i64] [.int .i64] (fun x => F23 n x.1 x.2) := by
  rintro ⟨a0, a1⟩ r h
  exact calls_plain (fn_sound lay0_ok mixed (rvs := [.tmp 4]) (by kernel_rfl : Try.prog.funcs[23]? = some Try.f23) (by kernel_rfl : Try.f23.body = some c23) (by kernel_rfl) (by kernel_rfl) (by kernel_rfl) (GO23 n) noInl_ok (K23 n) ((E23 n a0 a1).symm.trans h)) rfl rfl rfl rfl

/-! ### orthoepy/orthoepylaw18.same -/

def F14l0F (n : Nat) (rF14l0 : List Int → List Int → Int → Option (Bool)) (t11 : List Int) (t12 : List Int) (t13 : Int) : Option (Bool) :=
  (bif (decide (t13 < ((t11).length : Int))) then
    (bif inB t13 (t11).length then
    (bif inB t13 (t12).length then
    (bif (((t11).getD (Int.toNat t13) (Ty.dflt (.int .i64))) != ((t12).getD (Int.toNat t13) (Ty.dflt (.int .i64)))) then
      some false
    else
      rF14l0 t11 t12 (IntKind.wrap .i64 (t13 + 1)))
    else none)
    else none)
  else
    some true)
def F14l0 (n : Nat) : Nat → List Int → List Int → Int → Option (Bool)
  | 0, _, _, _ => none
  | m + 1, t11, t12, t13 => F14l0F n (F14l0 n m) t11 t12 t13

def F14 (n : Nat) (a0 : Option (List ((Int × (Bool × (Int × (List UInt8 × (List UInt8 × (Int × (Int × Unit))))))) × (Int × (Int × Unit))) × Unit)) (a1 : Option (List (Int × (Bool × (Int × (List UInt8 × (List UInt8 × (Int × (Int × Unit))))))) × (List Int × (List Int × Unit)))) (a2 : Int) : Option (Bool) :=
  (match F19 n a0 a2 with
  | some r1 =>
  (match F17 n a1 a2 with
  | some r2 =>
  (bif (!(Ty.beq (.pair (.int .i64) (.pair .bool (.pair (.int .i64) (.pair .str (.pair .str (.pair (.int .i64) (.pair (.int .i64) .unit))))))) r1.1 r2.1)) then
    some false
  else
    (bif (!(r1.2 == r2.2)) then
      some false
    else
      (match F21 n a0 a2 with
      | some r3 =>
      (match F18 n a1 a2 with
      | some r4 =>
      (bif (r3 != r4) then
        some false
      else
        (match F22 n a0 a2 with
        | some r5 =>
        (match F27 n a1 a2 with
        | some r6 =>
        (bif (r5 != r6) then
          some false
        else
          (match F23 n a0 a2 with
          | some r7 =>
          (match F28 n a1 a2 with
          | some r8 =>
          (bif (r7 != r8) then
            some false
          else
            (match F20 n a0 a2 with
            | some r9 =>
            (match F29 n a1 a2 with
            | some r10 =>
            (bif (((r9).length : Int) != ((r10).length : Int)) then
              some false
            else
              F14l0 n n r9 r10 0)
            | none => none)
            | none => none))
          | none => none)
          | none => none))
        | none => none)
        | none => none))
      | none => none)
      | none => none)))
  | none => none)
  | none => none)

noncomputable def c14 : Code := Try.f14.body.getD .skip

noncomputable def G14 (n : Nat) : Ctx (Res [.bool]) := ent 17 [.ref (.pair (.slice (.pair (.int .i64) (.pair .bool (.pair (.int .i64) (.pair .str (.pair .str (.pair (.int .i64) (.pair (.int .i64) .unit)))))))) (.pair (.slice (.int .i64)) (.pair (.slice (.int .i64)) .unit))), .int .i64] [.pair (.int .i64) (.pair .bool (.pair (.int .i64) (.pair .str (.pair .str (.pair (.int .i64) (.pair (.int .i64) .unit)))))), .bool] (fun x => F17 n x.1 x.2) (ent 18 [.ref (.pair (.slice (.pair (.int .i64) (.pair .bool (.pair (.int .i64) (.pair .str (.pair .str (.pair (.int .i64) (.pair (.int .i64) .unit)))))))) (.pair (.slice (.int .i64)) (.pair (.slice (.int .i64)) .unit))), .int .i64] [.int .i64] (fun x => F18 n x.1 x.2) (ent 19 [.ref (.pair (.slice (.pair (.pair (.int .i64) (.pair .bool (.pair (.int .i64) (.pair .str (.pair .str (.pair (.int .i64) (.pair (.int .i64) .unit))))))) (.pair (.int .i64) (.pair (.int .i64) .unit)))) .unit), .int .i64] [.pair (.int .i64) (.pair .bool (.pair (.int .i64) (.pair .str (.pair .str (.pair (.int .i64) (.pair (.int .i64) .unit)))))), .bool] (fun x => F19 n x.1 x.2) (ent 20 [.ref (.pair (.slice (.pair (.pair (.int .i64) (.pair .bool (.pair (.int .i64) (.pair .str (.pair .str (.pair (.int .i64) (.pair (.int .i64) .unit))))))) (.pair (.int .i64) (.pair (.int .i64) .unit)))) .unit), .int .i64] [.slice (.int .i64)] (fun x => F20 n x.1 x.2) (ent 21 [.ref (.pair (.slice (.pair (.pair (.int .i64) (.pair .bool (.pair (.int .i64) (.pair .str (.pair .str (.pair (.int .i64) (.pair (.int .i64) .unit))))))) (.pair (.int .i64) (.pair (.int .i64) .unit)))) .unit), .int .i64] [.int .i64] (fun x => F21 n x.1 x.2) (ent 22 [.ref (.pair (.slice (.pair (.pair (.int .i64) (.pair .bool (.pair (.int .i64) (.pair .str (.pair .str (.pair (.int .i64) (.pair (.int .i64) .unit))))))) (.pair (.int .i64) (.pair (.int .i64) .unit)))) .unit), .int .i64] [.int .i64] (fun x => F22 n x.1 x.2) (ent 23 [.ref (.pair (.slice (.pair (.pair (.int .i64) (.pair .bool (.pair (.int .i64) (.pair .str (.pair .str (.pair (.int .i64) (.pair (.int .i64) .unit))))))) (.pair (.int .i64) (.pair (.int .i64) .unit)))) .unit), .int .i64] [.int .i64] (fun x => F23 n x.1 x.2) (ent 27 [.ref (.pair (.slice (.pair (.int .i64) (.pair .bool (.pair (.int .i64) (.pair .str (.pair .str (.pair (.int .i64) (.pair (.int .i64) .unit)))))))) (.pair (.slice (.int .i64)) (.pair (.slice (.int .i64)) .unit))), .int .i64] [.int .i64] (fun x => F27 n x.1 x.2) (ent 28 [.ref (.pair (.slice (.pair (.int .i64) (.pair .bool (.pair (.int .i64) (.pair .str (.pair .str (.pair (.int .i64) (.pair (.int .i64) .unit)))))))) (.pair (.slice (.int .i64)) (.pair (.slice (.int .i64)) .unit))), .int .i64] [.int .i64] (fun x => F28 n x.1 x.2) (ent 29 [.ref (.pair (.slice (.pair (.int .i64) (.pair .bool (.pair (.int .i64) (.pair .str (.pair .str (.pair (.int .i64) (.pair (.int .i64) .unit)))))))) (.pair (.slice (.int .i64)) (.pair (.slice (.int .i64)) .unit))), .int .i64] [.slice (.int .i64)] (fun x => F29 n x.1 x.2) (noFns))))))))))

theorem GO14 (n : Nat) : CtxOK Try.prog lay0 (G14 n) := ent_ok (T17 n) (fun _ _ h => h) (ent_ok (T18 n) (fun _ _ h => h) (ent_ok (T19 n) (fun _ _ h => h) (ent_ok (T20 n) (fun _ _ h => h) (ent_ok (T21 n) (fun _ _ h => h) (ent_ok (T22 n) (fun _ _ h => h) (ent_ok (T23 n) (fun _ _ h => h) (ent_ok (T27 n) (fun _ _ h => h) (ent_ok (T28 n) (fun _ _ h => h) (ent_ok (T29 n) (fun _ _ h => h) (noFns_ok))))))))))

noncomputable def P14 (n : Nat) : Pl (Res [.bool]) :=
  (.two .leaf (.two .leaf (.two .leaf (.two .leaf (.two .leaf (.two .leaf (.two (.two .leaf (.one (.loop [.val (.tmp 11) (.slice (.int .i64)), .val (.tmp 12) (.slice (.int .i64)), .val (.tmp 13) (.int .i64)] n (fun m x => F14l0 n m x.1 x.2.1 x.2.2.1) (fun _ => .leaf)))) .leaf)))))))

theorem K14 (n : Nat) : PlOK (G14 n) noInl lay0 87 (P14 n) c14 (fnK lay0 [.tmp 6] [.val (.ref (.pair (.slice (.pair (.pair (.int .i64) (.pair .bool (.pair (.int .i64) (.pair .str (.pair .str (.pair (.int .i64) (.pair (.int .i64) .unit))))))) (.pair (.int .i64) (.pair (.int .i64) .unit)))) .unit)), .val (.ref (.pair (.slice (.pair (.int .i64) (.pair .bool (.pair (.int .i64) (.pair .str (.pair .str (.pair (.int .i64) (.pair (.int .i64) .unit)))))))) (.pair (.slice (.int .i64)) (.pair (.slice (.int .i64)) .unit)))), .val (.int .i64)] [.val .bool] [.bool]) :=
  ⟨trivial, ⟨trivial, ⟨trivial, ⟨trivial, ⟨trivial, ⟨trivial, ⟨⟨trivial, ⟨by kernel_rfl, fun x => by kernel_rfl, fun m => ⟨fun x => by kernel_rfl, trivial⟩⟩⟩, trivial⟩⟩⟩⟩⟩⟩⟩

theorem E14 (n : Nat) (a0 : Option (List ((Int × (Bool × (Int × (List UInt8 × (List UInt8 × (Int × (Int × Unit))))))) × (Int × (Int × Unit))) × Unit)) (a1 : Option (List (Int × (Bool × (Int × (List UInt8 × (List UInt8 × (Int × (Int × Unit))))))) × (List Int × (List Int × Unit)))) (a2 : Int) : F14 n a0 a1 a2 = fnE [.val (.ref (.pair (.slice (.pair (.pair (.int .i64) (.pair .bool (.pair (.int .i64) (.pair .str (.pair .str (.pair (.int .i64) (.pair (.int .i64) .unit))))))) (.pair (.int .i64) (.pair (.int .i64) .unit)))) .unit)), .val (.ref (.pair (.slice (.pair (.int .i64) (.pair .bool (.pair (.int .i64) (.pair .str (.pair .str (.pair (.int .i64) (.pair (.int .i64) .unit)))))))) (.pair (.slice (.int .i64)) (.pair (.slice (.int .i64)) .unit)))), .val (.int .i64)] (argDs [.ref (.pair (.slice (.pair (.pair (.int .i64) (.pair .bool (.pair (.int .i64) (.pair .str (.pair .str (.pair (.int .i64) (.pair (.int .i64) .unit))))))) (.pair (.int .i64) (.pair (.int .i64) .unit)))) .unit), .ref (.pair (.slice (.pair (.int .i64) (.pair .bool (.pair (.int .i64) (.pair .str (.pair .str (.pair (.int .i64) (.pair (.int .i64) .unit)))))))) (.pair (.slice (.int .i64)) (.pair (.slice (.int .i64)) .unit))), .int .i64] (a0, a1, a2)) (fun st => ev (G14 n) noInl lay0 87 c14 (P14 n) st (fnK lay0 [.tmp 6] [.val (.ref (.pair (.slice (.pair (.pair (.int .i64) (.pair .bool (.pair (.int .i64) (.pair .str (.pair .str (.pair (.int .i64) (.pair (.int .i64) .unit))))))) (.pair (.int .i64) (.pair (.int .i64) .unit)))) .unit)), .val (.ref (.pair (.slice (.pair (.int .i64) (.pair .bool (.pair (.int .i64) (.pair .str (.pair .str (.pair (.int .i64) (.pair (.int .i64) .unit)))))))) (.pair (.slice (.int .i64)) (.pair (.slice (.int .i64)) .unit)))), .val (.int .i64)] [.val .bool] [.bool])) := by kernel_rfl

theorem T14 (n : Nat) : Told Try.prog 14 [.ref (.pair (.slice (.pair (.pair (.int .i64) (.pair .bool (.pair (.int .i64) (.pair .str (.pair .str (.pair (.int .i64) (.pair (.int .i64) .unit))))))) (.pair (.int .i64) (.pair (.int .i64) .unit)))) .unit), .ref (.pair (.slice (.pair (.int .i64) (.pair .bool (.pair (.int .i64) (.pair .str (.pair .str (.pair (.int .i64) (.pair (.int .i64) .unit)))))))) (.pair (.slice (.int .i64)) (.pair (.slice (.int .i64)) .unit))), .int .i64] [.bool] (fun x => F14 n x.1 x.2.1 x.2.2) := by
  rintro ⟨a0, a1, a2⟩ r h
  exact calls_plain (fn_sound lay0_ok mixed (rvs := [.tmp 6]) (by kernel_rfl : Try.prog.funcs[14]? = some Try.f14) (by kernel_rfl : Try.f14.body = some c14) (by kernel_rfl) (by kernel_rfl) (by kernel_rfl) (GO14 n) noInl_ok (K14 n) ((E14 n a0 a1 a2).symm.trans h)) rfl rfl rfl rfl

/-! ### orthoepy/orthoepylaw18.awake -/

def F9 (n : Nat) : Option (Bool) :=
  (match F6 n with
  | some r1 =>
  (match F11 n r1 (-1) (5, (false, (0, (([] : List UInt8), (([] : List UInt8), (0, (0, ()))))))) with
  | some r2 =>
  (match F11 n r2.1 0 (3, (false, (4, (([] : List UInt8), (([] : List UInt8), (0, (0, ()))))))) with
  | some r3 =>
  (match F11 n r3.1 0 (3, (false, (5, (([] : List UInt8), (([110, 111] : List UInt8), (0, (0, ()))))))) with
  | some r4 =>
  (match F19 n (some r4.1) 1 with
  | some r5 =>
  (match F20 n (some r4.1) 0 with
  | some r6 =>
  (bif (r2.2 == 0) then
    (bif (r3.2 == 1) then
      (bif (r4.2 == 2) then
        (match F11 n r4.1 (-1) (1, (false, (0, (([] : List UInt8), (([] : List UInt8), (0, (0, ()))))))) with
        | some r7 =>
        (bif (r7.2 == (-1)) then
          (match F11 n r7.1 1 (1, (false, (0, (([] : List UInt8), (([] : List UInt8), (0, (0, ()))))))) with
          | some r8 =>
          (bif (r8.2 == (-1)) then
            (bif r5.2 then
              (bif (r5.1.2.2.2.2.2.2.1 == 2) then
                (bif (r5.1.2.2.2.2.2.1 == (-1)) then
                  (bif (r5.1.2.2.1 == 4) then
                    (bif (((r6).length : Int) == 2) then
                      (bif inB 1 (r6).length then
                      (bif (((r6).getD (Int.toNat 1) (Ty.dflt (.int .i64))) == 2) then
                        (match F13 n (some r8.1) with
                        | some r9 =>
                        (bif (r9 == 3) then
                          (match F23 n (some r8.1) 0 with
                          | some r10 =>
                          (bif (r10 == 3) then
                            (match F22 n (some r8.1) 2 with
                            | some r11 =>
                            (bif (r11 == 1) then
                              (match F21 n (some r8.1) 2 with
                              | some r12 =>
                              (bif (r12 == 0) then
                                (match F15 n (some r8.1) 0 ([110, 111] : List UInt8) with
                                | some r13 =>
                                some (r13 == (-1))
                                | none => none)
                              else
                                some false)
                              | none => none)
                            else
                              some false)
                            | none => none)
                          else
                            some false)
                          | none => none)
                        else
                          some false)
                        | none => none)
                      else
                        some false)
                      else none)
                    else
                      some false)
                  else
                    some false)
                else
                  some false)
              else
                some false)
            else
              some false)
          else
            some false)
          | none => none)
        else
          some false)
        | none => none)
      else
        some false)
    else
      some false)
  else
    some false)
  | none => none)
  | none => none)
  | none => none)
  | none => none)
  | none => none)
  | none => none)

noncomputable def lay9 : Lay := layOf layL [(6, .io [] [.box (.pair (.vec 57 (.pair (.pair (.int .i64) (.pair .bool (.pair (.int .i64) (.pair .str (.pair .str (.pair (.int .i64) (.pair (.int .i64) .unit))))))) (.pair (.int .i64) (.pair (.int .i64) .unit)))) .unit)]), (11, .io [.box (.pair (.vec 57 (.pair (.pair (.int .i64) (.pair .bool (.pair (.int .i64) (.pair .str (.pair .str (.pair (.int .i64) (.pair (.int .i64) .unit))))))) (.pair (.int .i64) (.pair (.int .i64) .unit)))) .unit), .val (.int .i64), .val (.pair (.int .i64) (.pair .bool (.pair (.int .i64) (.pair .str (.pair .str (.pair (.int .i64) (.pair (.int .i64) .unit)))))))] [.val (.int .i64)]), (13, .borrow [.ref (.pair (.slice (.pair (.pair (.int .i64) (.pair .bool (.pair (.int .i64) (.pair .str (.pair .str (.pair (.int .i64) (.pair (.int .i64) .unit))))))) (.pair (.int .i64) (.pair (.int .i64) .unit)))) .unit)] false), (15, .borrow [.ref (.pair (.slice (.pair (.pair (.int .i64) (.pair .bool (.pair (.int .i64) (.pair .str (.pair .str (.pair (.int .i64) (.pair (.int .i64) .unit))))))) (.pair (.int .i64) (.pair (.int .i64) .unit)))) .unit), .int .i64, .str] false), (19, .borrow [.ref (.pair (.slice (.pair (.pair (.int .i64) (.pair .bool (.pair (.int .i64) (.pair .str (.pair .str (.pair (.int .i64) (.pair (.int .i64) .unit))))))) (.pair (.int .i64) (.pair (.int .i64) .unit)))) .unit), .int .i64] false), (20, .borrow [.ref (.pair (.slice (.pair (.pair (.int .i64) (.pair .bool (.pair (.int .i64) (.pair .str (.pair .str (.pair (.int .i64) (.pair (.int .i64) .unit))))))) (.pair (.int .i64) (.pair (.int .i64) .unit)))) .unit), .int .i64] true), (21, .borrow [.ref (.pair (.slice (.pair (.pair (.int .i64) (.pair .bool (.pair (.int .i64) (.pair .str (.pair .str (.pair (.int .i64) (.pair (.int .i64) .unit))))))) (.pair (.int .i64) (.pair (.int .i64) .unit)))) .unit), .int .i64] false), (22, .borrow [.ref (.pair (.slice (.pair (.pair (.int .i64) (.pair .bool (.pair (.int .i64) (.pair .str (.pair .str (.pair (.int .i64) (.pair (.int .i64) .unit))))))) (.pair (.int .i64) (.pair (.int .i64) .unit)))) .unit), .int .i64] false), (23, .borrow [.ref (.pair (.slice (.pair (.pair (.int .i64) (.pair .bool (.pair (.int .i64) (.pair .str (.pair .str (.pair (.int .i64) (.pair (.int .i64) .unit))))))) (.pair (.int .i64) (.pair (.int .i64) .unit)))) .unit), .int .i64] false)]
theorem lay9_ok : LayOK Try.prog lay9 := layOf_ok layAll (by
  intro p hp
  simp only [List.mem_cons, List.not_mem_nil, or_false] at hp
  rcases hp with rfl | rfl | rfl | rfl | rfl | rfl | rfl | rfl | rfl
  · exact trivial
  · exact trivial
  · exact trivial
  · exact trivial
  · exact trivial
  · exact trivial
  · exact trivial
  · exact trivial
  · exact trivial) layEq

noncomputable def c9 : Code := Try.f9.body.getD .skip

noncomputable def G9 (n : Nat) : Ctx (Res [.bool]) := entIo 6 [] [.pair (.slice (.pair (.pair (.int .i64) (.pair .bool (.pair (.int .i64) (.pair .str (.pair .str (.pair (.int .i64) (.pair (.int .i64) .unit))))))) (.pair (.int .i64) (.pair (.int .i64) .unit)))) .unit] (fun x => F6 n ) (entIo 11 [.pair (.slice (.pair (.pair (.int .i64) (.pair .bool (.pair (.int .i64) (.pair .str (.pair .str (.pair (.int .i64) (.pair (.int .i64) .unit))))))) (.pair (.int .i64) (.pair (.int .i64) .unit)))) .unit, .int .i64, .pair (.int .i64) (.pair .bool (.pair (.int .i64) (.pair .str (.pair .str (.pair (.int .i64) (.pair (.int .i64) .unit))))))] [.pair (.slice (.pair (.pair (.int .i64) (.pair .bool (.pair (.int .i64) (.pair .str (.pair .str (.pair (.int .i64) (.pair (.int .i64) .unit))))))) (.pair (.int .i64) (.pair (.int .i64) .unit)))) .unit, .int .i64] (fun x => F11 n x.1 x.2.1 x.2.2) (ent 13 [.ref (.pair (.slice (.pair (.pair (.int .i64) (.pair .bool (.pair (.int .i64) (.pair .str (.pair .str (.pair (.int .i64) (.pair (.int .i64) .unit))))))) (.pair (.int .i64) (.pair (.int .i64) .unit)))) .unit)] [.int .i64] (fun x => F13 n x) (ent 15 [.ref (.pair (.slice (.pair (.pair (.int .i64) (.pair .bool (.pair (.int .i64) (.pair .str (.pair .str (.pair (.int .i64) (.pair (.int .i64) .unit))))))) (.pair (.int .i64) (.pair (.int .i64) .unit)))) .unit), .int .i64, .str] [.int .i64] (fun x => F15 n x.1 x.2.1 x.2.2) (ent 19 [.ref (.pair (.slice (.pair (.pair (.int .i64) (.pair .bool (.pair (.int .i64) (.pair .str (.pair .str (.pair (.int .i64) (.pair (.int .i64) .unit))))))) (.pair (.int .i64) (.pair (.int .i64) .unit)))) .unit), .int .i64] [.pair (.int .i64) (.pair .bool (.pair (.int .i64) (.pair .str (.pair .str (.pair (.int .i64) (.pair (.int .i64) .unit)))))), .bool] (fun x => F19 n x.1 x.2) (ent 20 [.ref (.pair (.slice (.pair (.pair (.int .i64) (.pair .bool (.pair (.int .i64) (.pair .str (.pair .str (.pair (.int .i64) (.pair (.int .i64) .unit))))))) (.pair (.int .i64) (.pair (.int .i64) .unit)))) .unit), .int .i64] [.slice (.int .i64)] (fun x => F20 n x.1 x.2) (ent 21 [.ref (.pair (.slice (.pair (.pair (.int .i64) (.pair .bool (.pair (.int .i64) (.pair .str (.pair .str (.pair (.int .i64) (.pair (.int .i64) .unit))))))) (.pair (.int .i64) (.pair (.int .i64) .unit)))) .unit), .int .i64] [.int .i64] (fun x => F21 n x.1 x.2) (ent 22 [.ref (.pair (.slice (.pair (.pair (.int .i64) (.pair .bool (.pair (.int .i64) (.pair .str (.pair .str (.pair (.int .i64) (.pair (.int .i64) .unit))))))) (.pair (.int .i64) (.pair (.int .i64) .unit)))) .unit), .int .i64] [.int .i64] (fun x => F22 n x.1 x.2) (ent 23 [.ref (.pair (.slice (.pair (.pair (.int .i64) (.pair .bool (.pair (.int .i64) (.pair .str (.pair .str (.pair (.int .i64) (.pair (.int .i64) .unit))))))) (.pair (.int .i64) (.pair (.int .i64) .unit)))) .unit), .int .i64] [.int .i64] (fun x => F23 n x.1 x.2) (noFns)))))))))

theorem GO9 (n : Nat) : CtxOK Try.prog lay9 (G9 n) := ent_okIo (ps := []) (rss := [.box (.pair (.vec 57 (.pair (.pair (.int .i64) (.pair .bool (.pair (.int .i64) (.pair .str (.pair .str (.pair (.int .i64) (.pair (.int .i64) .unit))))))) (.pair (.int .i64) (.pair (.int .i64) .unit)))) .unit)]) (T6 n) (fun _ _ h => h) (ent_okIo (ps := [.box (.pair (.vec 57 (.pair (.pair (.int .i64) (.pair .bool (.pair (.int .i64) (.pair .str (.pair .str (.pair (.int .i64) (.pair (.int .i64) .unit))))))) (.pair (.int .i64) (.pair (.int .i64) .unit)))) .unit), .val (.int .i64), .val (.pair (.int .i64) (.pair .bool (.pair (.int .i64) (.pair .str (.pair .str (.pair (.int .i64) (.pair (.int .i64) .unit)))))))]) (rss := [.val (.int .i64)]) (T11 n) (fun _ _ h => h) (ent_ok (T13 n) (fun _ _ h => h) (ent_ok (T15 n) (fun _ _ h => h) (ent_ok (T19 n) (fun _ _ h => h) (ent_okFresh (TF20 n) (fun _ _ h => h) (ent_ok (T21 n) (fun _ _ h => h) (ent_ok (T22 n) (fun _ _ h => h) (ent_ok (T23 n) (fun _ _ h => h) (noFns_ok)))))))))

noncomputable def P9 (n : Nat) : Pl (Res [.bool]) :=
  .leaf

theorem K9 (n : Nat) : PlOK (G9 n) noInl lay9 103 (P9 n) c9 (fnK lay9 [.tmp 0] [] [.val .bool] [.bool]) :=
  trivial

theorem E9 (n : Nat) : F9 n = fnE [] (argDs [] ()) (fun st => ev (G9 n) noInl lay9 103 c9 (P9 n) st (fnK lay9 [.tmp 0] [] [.val .bool] [.bool])) := by kernel_rfl

theorem T9 (n : Nat) : Told Try.prog 9 [] [.bool] (fun x => F9 n) := by
  rintro _ r h
  exact calls_plain (fn_sound lay9_ok mixed (rvs := [.tmp 0]) (by kernel_rfl : Try.prog.funcs[9]? = some Try.f9) (by kernel_rfl : Try.f9.body = some c9) (by kernel_rfl) (by kernel_rfl) (by kernel_rfl) (GO9 n) noInl_ok (K9 n) ((E9 n).symm.trans h)) rfl rfl rfl rfl

/-! ### orthoepy/orthoepylaw18.ArenaPlays -/

def F3j2 (n : Nat) (rF3l0 : List (Int × ((Int × (Bool × (Int × (List UInt8 × (List UInt8 × (Int × (Int × Unit))))))) × Unit)) → List (List UInt8) → Int → List (Int × (Bool × (Int × (List UInt8 × (List UInt8 × (Int × (Int × Unit))))))) → List Int → List Int → List ((Int × (Bool × (Int × (List UInt8 × (List UInt8 × (Int × (Int × Unit))))))) × (Int × (Int × Unit))) → Option (Bool)) (t0 : List (Int × ((Int × (Bool × (Int × (List UInt8 × (List UInt8 × (Int × (Int × Unit))))))) × Unit))) (t1 : List (List UInt8)) (t7 : Int) (t8 : Int) (b15_0 : List (Int × (Bool × (Int × (List UInt8 × (List UInt8 × (Int × (Int × Unit)))))))) (b15_1 : List Int) (b15_2 : List Int) (b5000130_0 : List ((Int × (Bool × (Int × (List UInt8 × (List UInt8 × (Int × (Int × Unit))))))) × (Int × (Int × Unit)))) : Option (Bool) :=
  (bif inB t7 (t0).length then
  (match F11 n (b5000130_0, ()) t8 ((t0).getD (Int.toNat t7) (Ty.dflt (.pair (.int .i64) (.pair (.pair (.int .i64) (.pair .bool (.pair (.int .i64) (.pair .str (.pair .str (.pair (.int .i64) (.pair (.int .i64) .unit))))))) .unit)))).2.1 with
  | some r7 =>
  (bif inB t7 (t0).length then
  (match F12 n (b15_0, (b15_1, (b15_2, ()))) t8 ((t0).getD (Int.toNat t7) (Ty.dflt (.pair (.int .i64) (.pair (.pair (.int .i64) (.pair .bool (.pair (.int .i64) (.pair .str (.pair .str (.pair (.int .i64) (.pair (.int .i64) .unit))))))) .unit)))).2.1 with
  | some r8 =>
  (bif (r7.2 != r8.2) then
    some false
  else
    (match F13 n (some r7.1) with
    | some r9 =>
    (bif (r9 != ((r8.1.1).length : Int)) then
      some false
    else
      rF3l0 t0 t1 (IntKind.wrap .i64 (t7 + 1)) r8.1.1 r8.1.2.1 r8.1.2.2.1 r7.1.1)
    | none => none))
  | none => none)
  else none)
  | none => none)
  else none)

def F3l3F (n : Nat) (rF3l1 : List (List UInt8) → Int → List (Int × (Bool × (Int × (List UInt8 × (List UInt8 × (Int × (Int × Unit))))))) → List Int → List Int → List ((Int × (Bool × (Int × (List UInt8 × (List UInt8 × (Int × (Int × Unit))))))) × (Int × (Int × Unit))) → Option (Bool)) (rF3l3 : List (List UInt8) → Int → Int → List (Int × (Bool × (Int × (List UInt8 × (List UInt8 × (Int × (Int × Unit))))))) → List Int → List Int → List ((Int × (Bool × (Int × (List UInt8 × (List UInt8 × (Int × (Int × Unit))))))) × (Int × (Int × Unit))) → Option (Bool)) (t1 : List (List UInt8)) (t9 : Int) (t10 : Int) (b15_0 : List (Int × (Bool × (Int × (List UInt8 × (List UInt8 × (Int × (Int × Unit)))))))) (b15_1 : List Int) (b15_2 : List Int) (b5000130_0 : List ((Int × (Bool × (Int × (List UInt8 × (List UInt8 × (Int × (Int × Unit))))))) × (Int × (Int × Unit)))) : Option (Bool) :=
  (bif (decide (t10 < ((t1).length : Int))) then
    (bif inB t10 (t1).length then
    (match F15 n (some (b5000130_0, ())) t9 ((t1).getD (Int.toNat t10) (Ty.dflt .str)) with
    | some r11 =>
    (bif inB t10 (t1).length then
    (match F16 n (some (b15_0, (b15_1, (b15_2, ())))) t9 ((t1).getD (Int.toNat t10) (Ty.dflt .str)) with
    | some r12 =>
    (bif (r11 != r12) then
      some false
    else
      rF3l3 t1 t9 (IntKind.wrap .i64 (t10 + 1)) b15_0 b15_1 b15_2 b5000130_0)
    | none => none)
    else none)
    | none => none)
    else none)
  else
    (match F17 n (some (b15_0, (b15_1, (b15_2, ())))) t9 with
    | some r13 =>
    (bif r13.2 then
      (match F18 n (some (b15_0, (b15_1, (b15_2, ())))) t9 with
      | some r14 =>
      (match F15 n (some (b5000130_0, ())) r14 r13.1.2.2.2.2.1 with
      | some r15 =>
      (match F18 n (some (b15_0, (b15_1, (b15_2, ())))) t9 with
      | some r16 =>
      (match F16 n (some (b15_0, (b15_1, (b15_2, ())))) r16 r13.1.2.2.2.2.1 with
      | some r17 =>
      (bif (r15 != r17) then
        some false
      else
        rF3l1 t1 (IntKind.wrap .i64 (t9 + 1)) b15_0 b15_1 b15_2 b5000130_0)
      | none => none)
      | none => none)
      | none => none)
      | none => none)
    else
      rF3l1 t1 (IntKind.wrap .i64 (t9 + 1)) b15_0 b15_1 b15_2 b5000130_0)
    | none => none))
def F3l3 (n : Nat) (rF3l1 : List (List UInt8) → Int → List (Int × (Bool × (Int × (List UInt8 × (List UInt8 × (Int × (Int × Unit))))))) → List Int → List Int → List ((Int × (Bool × (Int × (List UInt8 × (List UInt8 × (Int × (Int × Unit))))))) × (Int × (Int × Unit))) → Option (Bool)) : Nat → List (List UInt8) → Int → Int → List (Int × (Bool × (Int × (List UInt8 × (List UInt8 × (Int × (Int × Unit))))))) → List Int → List Int → List ((Int × (Bool × (Int × (List UInt8 × (List UInt8 × (Int × (Int × Unit))))))) × (Int × (Int × Unit))) → Option (Bool)
  | 0, _, _, _, _, _, _, _ => none
  | m + 1, t1, t9, t10, b15_0, b15_1, b15_2, b5000130_0 => F3l3F n rF3l1 (F3l3 n rF3l1 m) t1 t9 t10 b15_0 b15_1 b15_2 b5000130_0

def F3l1F (n : Nat) (rF3l1 : List (List UInt8) → Int → List (Int × (Bool × (Int × (List UInt8 × (List UInt8 × (Int × (Int × Unit))))))) → List Int → List Int → List ((Int × (Bool × (Int × (List UInt8 × (List UInt8 × (Int × (Int × Unit))))))) × (Int × (Int × Unit))) → Option (Bool)) (t1 : List (List UInt8)) (t9 : Int) (b15_0 : List (Int × (Bool × (Int × (List UInt8 × (List UInt8 × (Int × (Int × Unit)))))))) (b15_1 : List Int) (b15_2 : List Int) (b5000130_0 : List ((Int × (Bool × (Int × (List UInt8 × (List UInt8 × (Int × (Int × Unit))))))) × (Int × (Int × Unit)))) : Option (Bool) :=
  (bif (decide (t9 ≤ ((b15_0).length : Int))) then
    (match F14 n (some (b5000130_0, ())) (some (b15_0, (b15_1, (b15_2, ())))) t9 with
    | some r10 =>
    (bif (!r10) then
      some false
    else
      F3l3 n rF3l1 n t1 t9 0 b15_0 b15_1 b15_2 b5000130_0)
    | none => none)
  else
    (match F9 n with
    | some r18 =>
    some r18
    | none => none))
def F3l1 (n : Nat) : Nat → List (List UInt8) → Int → List (Int × (Bool × (Int × (List UInt8 × (List UInt8 × (Int × (Int × Unit))))))) → List Int → List Int → List ((Int × (Bool × (Int × (List UInt8 × (List UInt8 × (Int × (Int × Unit))))))) × (Int × (Int × Unit))) → Option (Bool)
  | 0, _, _, _, _, _, _ => none
  | m + 1, t1, t9, b15_0, b15_1, b15_2, b5000130_0 => F3l1F n (F3l1 n m) t1 t9 b15_0 b15_1 b15_2 b5000130_0

def F3l0F (n : Nat) (rF3l0 : List (Int × ((Int × (Bool × (Int × (List UInt8 × (List UInt8 × (Int × (Int × Unit))))))) × Unit)) → List (List UInt8) → Int → List (Int × (Bool × (Int × (List UInt8 × (List UInt8 × (Int × (Int × Unit))))))) → List Int → List Int → List ((Int × (Bool × (Int × (List UInt8 × (List UInt8 × (Int × (Int × Unit))))))) × (Int × (Int × Unit))) → Option (Bool)) (t0 : List (Int × ((Int × (Bool × (Int × (List UInt8 × (List UInt8 × (Int × (Int × Unit))))))) × Unit))) (t1 : List (List UInt8)) (t7 : Int) (b15_0 : List (Int × (Bool × (Int × (List UInt8 × (List UInt8 × (Int × (Int × Unit)))))))) (b15_1 : List Int) (b15_2 : List Int) (b5000130_0 : List ((Int × (Bool × (Int × (List UInt8 × (List UInt8 × (Int × (Int × Unit))))))) × (Int × (Int × Unit)))) : Option (Bool) :=
  (bif (decide (t7 < ((t0).length : Int))) then
    (bif inB t7 (t0).length then
    (bif (!(5 == 0)) then
    (bif (decide ((Int.tmod t7 5) > 0)) then
      (match F10 n ((t0).getD (Int.toNat t7) (Ty.dflt (.pair (.int .i64) (.pair (.pair (.int .i64) (.pair .bool (.pair (.int .i64) (.pair .str (.pair .str (.pair (.int .i64) (.pair (.int .i64) .unit))))))) .unit)))).1 (IntKind.wrap .i64 (t7 + 2)) with
      | some r6 =>
      F3j2 n rF3l0 t0 t1 t7 (IntKind.wrap .i64 (r6 - 1)) b15_0 b15_1 b15_2 b5000130_0
      | none => none)
    else
      F3j2 n rF3l0 t0 t1 t7 ((t0).getD (Int.toNat t7) (Ty.dflt (.pair (.int .i64) (.pair (.pair (.int .i64) (.pair .bool (.pair (.int .i64) (.pair .str (.pair .str (.pair (.int .i64) (.pair (.int .i64) .unit))))))) .unit)))).1 b15_0 b15_1 b15_2 b5000130_0)
    else none)
    else none)
  else
    F3l1 n n t1 (-2) b15_0 b15_1 b15_2 b5000130_0)
def F3l0 (n : Nat) : Nat → List (Int × ((Int × (Bool × (Int × (List UInt8 × (List UInt8 × (Int × (Int × Unit))))))) × Unit)) → List (List UInt8) → Int → List (Int × (Bool × (Int × (List UInt8 × (List UInt8 × (Int × (Int × Unit))))))) → List Int → List Int → List ((Int × (Bool × (Int × (List UInt8 × (List UInt8 × (Int × (Int × Unit))))))) × (Int × (Int × Unit))) → Option (Bool)
  | 0, _, _, _, _, _, _, _ => none
  | m + 1, t0, t1, t7, b15_0, b15_1, b15_2, b5000130_0 => F3l0F n (F3l0 n m) t0 t1 t7 b15_0 b15_1 b15_2 b5000130_0

def F3 (n : Nat) (a0 : List (Int × ((Int × (Bool × (Int × (List UInt8 × (List UInt8 × (Int × (Int × Unit))))))) × Unit))) (a1 : List (List UInt8)) : Option (Bool) :=
  (match F6 n with
  | some r1 =>
  (match F7 n a0 with
  | some r2 =>
  (bif (!r2) then
    (match F9 n with
    | some r3 =>
    some r3
    | none => none)
  else
    (match F8 n a1 with
    | some r4 =>
    (bif (!r4) then
      (match F9 n with
      | some r5 =>
      some r5
      | none => none)
    else
      F3l0 n n a0 a1 0 ([] : List (Int × (Bool × (Int × (List UInt8 × (List UInt8 × (Int × (Int × Unit)))))))) ([] : List Int) ([] : List Int) r1.1)
    | none => none))
  | none => none)
  | none => none)

noncomputable def lay3 : Lay := layOf layL [(6, .io [] [.box (.pair (.vec 57 (.pair (.pair (.int .i64) (.pair .bool (.pair (.int .i64) (.pair .str (.pair .str (.pair (.int .i64) (.pair (.int .i64) .unit))))))) (.pair (.int .i64) (.pair (.int .i64) .unit)))) .unit)]), (11, .io [.box (.pair (.vec 57 (.pair (.pair (.int .i64) (.pair .bool (.pair (.int .i64) (.pair .str (.pair .str (.pair (.int .i64) (.pair (.int .i64) .unit))))))) (.pair (.int .i64) (.pair (.int .i64) .unit)))) .unit), .val (.int .i64), .val (.pair (.int .i64) (.pair .bool (.pair (.int .i64) (.pair .str (.pair .str (.pair (.int .i64) (.pair (.int .i64) .unit)))))))] [.val (.int .i64)]), (12, .io [.box (.pair (.vec 35 (.pair (.int .i64) (.pair .bool (.pair (.int .i64) (.pair .str (.pair .str (.pair (.int .i64) (.pair (.int .i64) .unit)))))))) (.pair (.vec 3 (.int .i64)) (.pair (.vec 3 (.int .i64)) .unit))), .val (.int .i64), .val (.pair (.int .i64) (.pair .bool (.pair (.int .i64) (.pair .str (.pair .str (.pair (.int .i64) (.pair (.int .i64) .unit)))))))] [.val (.int .i64)]), (13, .borrow [.ref (.pair (.slice (.pair (.pair (.int .i64) (.pair .bool (.pair (.int .i64) (.pair .str (.pair .str (.pair (.int .i64) (.pair (.int .i64) .unit))))))) (.pair (.int .i64) (.pair (.int .i64) .unit)))) .unit)] false), (14, .borrow [.ref (.pair (.slice (.pair (.pair (.int .i64) (.pair .bool (.pair (.int .i64) (.pair .str (.pair .str (.pair (.int .i64) (.pair (.int .i64) .unit))))))) (.pair (.int .i64) (.pair (.int .i64) .unit)))) .unit), .ref (.pair (.slice (.pair (.int .i64) (.pair .bool (.pair (.int .i64) (.pair .str (.pair .str (.pair (.int .i64) (.pair (.int .i64) .unit)))))))) (.pair (.slice (.int .i64)) (.pair (.slice (.int .i64)) .unit))), .int .i64] false), (15, .borrow [.ref (.pair (.slice (.pair (.pair (.int .i64) (.pair .bool (.pair (.int .i64) (.pair .str (.pair .str (.pair (.int .i64) (.pair (.int .i64) .unit))))))) (.pair (.int .i64) (.pair (.int .i64) .unit)))) .unit), .int .i64, .str] false), (16, .borrow [.ref (.pair (.slice (.pair (.int .i64) (.pair .bool (.pair (.int .i64) (.pair .str (.pair .str (.pair (.int .i64) (.pair (.int .i64) .unit)))))))) (.pair (.slice (.int .i64)) (.pair (.slice (.int .i64)) .unit))), .int .i64, .str] false), (17, .borrow [.ref (.pair (.slice (.pair (.int .i64) (.pair .bool (.pair (.int .i64) (.pair .str (.pair .str (.pair (.int .i64) (.pair (.int .i64) .unit)))))))) (.pair (.slice (.int .i64)) (.pair (.slice (.int .i64)) .unit))), .int .i64] false), (18, .borrow [.ref (.pair (.slice (.pair (.int .i64) (.pair .bool (.pair (.int .i64) (.pair .str (.pair .str (.pair (.int .i64) (.pair (.int .i64) .unit)))))))) (.pair (.slice (.int .i64)) (.pair (.slice (.int .i64)) .unit))), .int .i64] false)]
theorem lay3_ok : LayOK Try.prog lay3 := layOf_ok layAll (by
  intro p hp
  simp only [List.mem_cons, List.not_mem_nil, or_false] at hp
  rcases hp with rfl | rfl | rfl | rfl | rfl | rfl | rfl | rfl | rfl
  · exact trivial
  · exact trivial
  · exact trivial
  · exact trivial
  · exact trivial
  · exact trivial
  · exact trivial
  · exact trivial
  · exact trivial) layEq

noncomputable def c3 : Code := Try.f3.body.getD .skip

noncomputable def G3 (n : Nat) : Ctx (Res [.bool]) := entIo 6 [] [.pair (.slice (.pair (.pair (.int .i64) (.pair .bool (.pair (.int .i64) (.pair .str (.pair .str (.pair (.int .i64) (.pair (.int .i64) .unit))))))) (.pair (.int .i64) (.pair (.int .i64) .unit)))) .unit] (fun x => F6 n ) (ent 7 [.slice (.pair (.int .i64) (.pair (.pair (.int .i64) (.pair .bool (.pair (.int .i64) (.pair .str (.pair .str (.pair (.int .i64) (.pair (.int .i64) .unit))))))) .unit))] [.bool] (fun x => F7 n x) (ent 8 [.slice .str] [.bool] (fun x => F8 n x) (ent 9 [] [.bool] (fun x => F9 n ) (ent 10 [.int .i64, .int .i64] [.int .i64] (fun x => F10 n x.1 x.2) (entIo 11 [.pair (.slice (.pair (.pair (.int .i64) (.pair .bool (.pair (.int .i64) (.pair .str (.pair .str (.pair (.int .i64) (.pair (.int .i64) .unit))))))) (.pair (.int .i64) (.pair (.int .i64) .unit)))) .unit, .int .i64, .pair (.int .i64) (.pair .bool (.pair (.int .i64) (.pair .str (.pair .str (.pair (.int .i64) (.pair (.int .i64) .unit))))))] [.pair (.slice (.pair (.pair (.int .i64) (.pair .bool (.pair (.int .i64) (.pair .str (.pair .str (.pair (.int .i64) (.pair (.int .i64) .unit))))))) (.pair (.int .i64) (.pair (.int .i64) .unit)))) .unit, .int .i64] (fun x => F11 n x.1 x.2.1 x.2.2) (entIo 12 [.pair (.slice (.pair (.int .i64) (.pair .bool (.pair (.int .i64) (.pair .str (.pair .str (.pair (.int .i64) (.pair (.int .i64) .unit)))))))) (.pair (.slice (.int .i64)) (.pair (.slice (.int .i64)) .unit)), .int .i64, .pair (.int .i64) (.pair .bool (.pair (.int .i64) (.pair .str (.pair .str (.pair (.int .i64) (.pair (.int .i64) .unit))))))] [.pair (.slice (.pair (.int .i64) (.pair .bool (.pair (.int .i64) (.pair .str (.pair .str (.pair (.int .i64) (.pair (.int .i64) .unit)))))))) (.pair (.slice (.int .i64)) (.pair (.slice (.int .i64)) .unit)), .int .i64] (fun x => F12 n x.1 x.2.1 x.2.2) (ent 13 [.ref (.pair (.slice (.pair (.pair (.int .i64) (.pair .bool (.pair (.int .i64) (.pair .str (.pair .str (.pair (.int .i64) (.pair (.int .i64) .unit))))))) (.pair (.int .i64) (.pair (.int .i64) .unit)))) .unit)] [.int .i64] (fun x => F13 n x) (ent 14 [.ref (.pair (.slice (.pair (.pair (.int .i64) (.pair .bool (.pair (.int .i64) (.pair .str (.pair .str (.pair (.int .i64) (.pair (.int .i64) .unit))))))) (.pair (.int .i64) (.pair (.int .i64) .unit)))) .unit), .ref (.pair (.slice (.pair (.int .i64) (.pair .bool (.pair (.int .i64) (.pair .str (.pair .str (.pair (.int .i64) (.pair (.int .i64) .unit)))))))) (.pair (.slice (.int .i64)) (.pair (.slice (.int .i64)) .unit))), .int .i64] [.bool] (fun x => F14 n x.1 x.2.1 x.2.2) (ent 15 [.ref (.pair (.slice (.pair (.pair (.int .i64) (.pair .bool (.pair (.int .i64) (.pair .str (.pair .str (.pair (.int .i64) (.pair (.int .i64) .unit))))))) (.pair (.int .i64) (.pair (.int .i64) .unit)))) .unit), .int .i64, .str] [.int .i64] (fun x => F15 n x.1 x.2.1 x.2.2) (ent 16 [.ref (.pair (.slice (.pair (.int .i64) (.pair .bool (.pair (.int .i64) (.pair .str (.pair .str (.pair (.int .i64) (.pair (.int .i64) .unit)))))))) (.pair (.slice (.int .i64)) (.pair (.slice (.int .i64)) .unit))), .int .i64, .str] [.int .i64] (fun x => F16 n x.1 x.2.1 x.2.2) (ent 17 [.ref (.pair (.slice (.pair (.int .i64) (.pair .bool (.pair (.int .i64) (.pair .str (.pair .str (.pair (.int .i64) (.pair (.int .i64) .unit)))))))) (.pair (.slice (.int .i64)) (.pair (.slice (.int .i64)) .unit))), .int .i64] [.pair (.int .i64) (.pair .bool (.pair (.int .i64) (.pair .str (.pair .str (.pair (.int .i64) (.pair (.int .i64) .unit)))))), .bool] (fun x => F17 n x.1 x.2) (ent 18 [.ref (.pair (.slice (.pair (.int .i64) (.pair .bool (.pair (.int .i64) (.pair .str (.pair .str (.pair (.int .i64) (.pair (.int .i64) .unit)))))))) (.pair (.slice (.int .i64)) (.pair (.slice (.int .i64)) .unit))), .int .i64] [.int .i64] (fun x => F18 n x.1 x.2) (noFns)))))))))))))

theorem GO3 (n : Nat) : CtxOK Try.prog lay3 (G3 n) := ent_okIo (ps := []) (rss := [.box (.pair (.vec 57 (.pair (.pair (.int .i64) (.pair .bool (.pair (.int .i64) (.pair .str (.pair .str (.pair (.int .i64) (.pair (.int .i64) .unit))))))) (.pair (.int .i64) (.pair (.int .i64) .unit)))) .unit)]) (T6 n) (fun _ _ h => h) (ent_ok (T7 n) (fun _ _ h => h) (ent_ok (T8 n) (fun _ _ h => h) (ent_ok (T9 n) (fun _ _ h => h) (ent_ok (T10 n) (fun _ _ h => h) (ent_okIo (ps := [.box (.pair (.vec 57 (.pair (.pair (.int .i64) (.pair .bool (.pair (.int .i64) (.pair .str (.pair .str (.pair (.int .i64) (.pair (.int .i64) .unit))))))) (.pair (.int .i64) (.pair (.int .i64) .unit)))) .unit), .val (.int .i64), .val (.pair (.int .i64) (.pair .bool (.pair (.int .i64) (.pair .str (.pair .str (.pair (.int .i64) (.pair (.int .i64) .unit)))))))]) (rss := [.val (.int .i64)]) (T11 n) (fun _ _ h => h) (ent_okIo (ps := [.box (.pair (.vec 35 (.pair (.int .i64) (.pair .bool (.pair (.int .i64) (.pair .str (.pair .str (.pair (.int .i64) (.pair (.int .i64) .unit)))))))) (.pair (.vec 3 (.int .i64)) (.pair (.vec 3 (.int .i64)) .unit))), .val (.int .i64), .val (.pair (.int .i64) (.pair .bool (.pair (.int .i64) (.pair .str (.pair .str (.pair (.int .i64) (.pair (.int .i64) .unit)))))))]) (rss := [.val (.int .i64)]) (T12 n) (fun _ _ h => h) (ent_ok (T13 n) (fun _ _ h => h) (ent_ok (T14 n) (fun _ _ h => h) (ent_ok (T15 n) (fun _ _ h => h) (ent_ok (T16 n) (fun _ _ h => h) (ent_ok (T17 n) (fun _ _ h => h) (ent_ok (T18 n) (fun _ _ h => h) (noFns_ok)))))))))))))

noncomputable def P3 (n : Nat) : Pl (Res [.bool]) :=
  (.two .leaf (.two .leaf (.two .leaf (.two (.two .leaf (.one (.loop [.val (.tmp 0) (.slice (.pair (.int .i64) (.pair (.pair (.int .i64) (.pair .bool (.pair (.int .i64) (.pair .str (.pair .str (.pair (.int .i64) (.pair (.int .i64) .unit))))))) .unit))), .val (.tmp 1) (.slice .str), .ptr (.tmp 5) 5000130 0, .ptr (.tmp 6) 15 0, .val (.tmp 7) (.int .i64), .vec (.cell 15 0) 20000000 35 (.pair (.int .i64) (.pair .bool (.pair (.int .i64) (.pair .str (.pair .str (.pair (.int .i64) (.pair (.int .i64) .unit))))))), .vec (.cell 15 1) 20000001 3 (.int .i64), .vec (.cell 15 2) 20000002 3 (.int .i64), .vec (.cell 5000130 0) 20000003 57 (.pair (.pair (.int .i64) (.pair .bool (.pair (.int .i64) (.pair .str (.pair .str (.pair (.int .i64) (.pair (.int .i64) .unit))))))) (.pair (.int .i64) (.pair (.int .i64) .unit))), .box 15 3, .box 5000130 1] n (fun m x => F3l0 n m x.1 x.2.1 x.2.2.2.2.1 x.2.2.2.2.2.1 x.2.2.2.2.2.2.1 x.2.2.2.2.2.2.2.1 x.2.2.2.2.2.2.2.2.1) (fun r => let rF3l0 : List (Int × ((Int × (Bool × (Int × (List UInt8 × (List UInt8 × (Int × (Int × Unit))))))) × Unit)) → List (List UInt8) → Int → List (Int × (Bool × (Int × (List UInt8 × (List UInt8 × (Int × (Int × Unit))))))) → List Int → List Int → List ((Int × (Bool × (Int × (List UInt8 × (List UInt8 × (Int × (Int × Unit))))))) × (Int × (Int × Unit))) → Option (Bool) := (fun y0 y1 y2 y3 y4 y5 y6 => r (y0, y1, (), (), y2, y3, y4, y5, y6, (), (), ())); (.two .leaf (.two (.one (.two .leaf (.join [.val (.tmp 0) (.slice (.pair (.int .i64) (.pair (.pair (.int .i64) (.pair .bool (.pair (.int .i64) (.pair .str (.pair .str (.pair (.int .i64) (.pair (.int .i64) .unit))))))) .unit))), .val (.tmp 1) (.slice .str), .ptr (.tmp 5) 5000130 0, .ptr (.tmp 6) 15 0, .val (.tmp 7) (.int .i64), .val (.tmp 8) (.int .i64), .vec (.cell 15 0) 20000000 35 (.pair (.int .i64) (.pair .bool (.pair (.int .i64) (.pair .str (.pair .str (.pair (.int .i64) (.pair (.int .i64) .unit))))))), .vec (.cell 15 1) 20000001 3 (.int .i64), .vec (.cell 15 2) 20000002 3 (.int .i64), .vec (.cell 5000130 0) 20000003 57 (.pair (.pair (.int .i64) (.pair .bool (.pair (.int .i64) (.pair .str (.pair .str (.pair (.int .i64) (.pair (.int .i64) .unit))))))) (.pair (.int .i64) (.pair (.int .i64) .unit))), .box 15 3, .box 5000130 1] (fun x => F3j2 n rF3l0 x.1 x.2.1 x.2.2.2.2.1 x.2.2.2.2.2.1 x.2.2.2.2.2.2.1 x.2.2.2.2.2.2.2.1 x.2.2.2.2.2.2.2.2.1 x.2.2.2.2.2.2.2.2.2.1) .leaf .leaf))) .leaf)))))) (.two (.two .leaf (.one (.loop [.val (.tmp 1) (.slice .str), .ptr (.tmp 5) 5000130 0, .ptr (.tmp 6) 15 0, .val (.tmp 9) (.int .i64), .vec (.cell 15 0) 20000000 35 (.pair (.int .i64) (.pair .bool (.pair (.int .i64) (.pair .str (.pair .str (.pair (.int .i64) (.pair (.int .i64) .unit))))))), .vec (.cell 15 1) 20000001 3 (.int .i64), .vec (.cell 15 2) 20000002 3 (.int .i64), .vec (.cell 5000130 0) 20000003 57 (.pair (.pair (.int .i64) (.pair .bool (.pair (.int .i64) (.pair .str (.pair .str (.pair (.int .i64) (.pair (.int .i64) .unit))))))) (.pair (.int .i64) (.pair (.int .i64) .unit))), .box 15 3, .box 5000130 1] n (fun m x => F3l1 n m x.1 x.2.2.2.1 x.2.2.2.2.1 x.2.2.2.2.2.1 x.2.2.2.2.2.2.1 x.2.2.2.2.2.2.2.1) (fun r => let rF3l1 : List (List UInt8) → Int → List (Int × (Bool × (Int × (List UInt8 × (List UInt8 × (Int × (Int × Unit))))))) → List Int → List Int → List ((Int × (Bool × (Int × (List UInt8 × (List UInt8 × (Int × (Int × Unit))))))) × (Int × (Int × Unit))) → Option (Bool) := (fun y0 y1 y2 y3 y4 y5 => r (y0, (), (), y1, y2, y3, y4, y5, (), (), ())); (.two .leaf (.two (.one (.two .leaf (.two (.two .leaf (.one (.loop [.val (.tmp 1) (.slice .str), .ptr (.tmp 5) 5000130 0, .ptr (.tmp 6) 15 0, .val (.tmp 9) (.int .i64), .val (.tmp 10) (.int .i64), .vec (.cell 15 0) 20000000 35 (.pair (.int .i64) (.pair .bool (.pair (.int .i64) (.pair .str (.pair .str (.pair (.int .i64) (.pair (.int .i64) .unit))))))), .vec (.cell 15 1) 20000001 3 (.int .i64), .vec (.cell 15 2) 20000002 3 (.int .i64), .vec (.cell 5000130 0) 20000003 57 (.pair (.pair (.int .i64) (.pair .bool (.pair (.int .i64) (.pair .str (.pair .str (.pair (.int .i64) (.pair (.int .i64) .unit))))))) (.pair (.int .i64) (.pair (.int .i64) .unit))), .box 15 3, .box 5000130 1] n (fun m x => F3l3 n rF3l1 m x.1 x.2.2.2.1 x.2.2.2.2.1 x.2.2.2.2.2.1 x.2.2.2.2.2.2.1 x.2.2.2.2.2.2.2.1 x.2.2.2.2.2.2.2.2.1) (fun _ => .leaf)))) .leaf))) .leaf)))))) .leaf)))))

theorem K3 (n : Nat) : PlOK (G3 n) noInl lay3 139 (P3 n) c3 (fnK lay3 [.tmp 4] [.val (.slice (.pair (.int .i64) (.pair (.pair (.int .i64) (.pair .bool (.pair (.int .i64) (.pair .str (.pair .str (.pair (.int .i64) (.pair (.int .i64) .unit))))))) .unit))), .val (.slice .str)] [.val .bool] [.bool]) :=
  ⟨trivial, ⟨trivial, ⟨trivial, ⟨⟨trivial, ⟨by kernel_rfl, fun x => by kernel_rfl, fun m => ⟨fun x => by kernel_rfl, ⟨trivial, ⟨⟨trivial, ⟨by kernel_rfl, fun x => by kernel_rfl, trivial, trivial⟩⟩, trivial⟩⟩⟩⟩⟩, ⟨⟨trivial, ⟨by kernel_rfl, fun x => by kernel_rfl, fun m => ⟨fun x => by kernel_rfl, ⟨trivial, ⟨⟨trivial, ⟨⟨trivial, ⟨by kernel_rfl, fun x => by kernel_rfl, fun m => ⟨fun x => by kernel_rfl, trivial⟩⟩⟩, trivial⟩⟩, trivial⟩⟩⟩⟩⟩, trivial⟩⟩⟩⟩⟩

theorem E3 (n : Nat) (a0 : List (Int × ((Int × (Bool × (Int × (List UInt8 × (List UInt8 × (Int × (Int × Unit))))))) × Unit))) (a1 : List (List UInt8)) : F3 n a0 a1 = fnE [.val (.slice (.pair (.int .i64) (.pair (.pair (.int .i64) (.pair .bool (.pair (.int .i64) (.pair .str (.pair .str (.pair (.int .i64) (.pair (.int .i64) .unit))))))) .unit))), .val (.slice .str)] (argDs [.slice (.pair (.int .i64) (.pair (.pair (.int .i64) (.pair .bool (.pair (.int .i64) (.pair .str (.pair .str (.pair (.int .i64) (.pair (.int .i64) .unit))))))) .unit)), .slice .str] (a0, a1)) (fun st => ev (G3 n) noInl lay3 139 c3 (P3 n) st (fnK lay3 [.tmp 4] [.val (.slice (.pair (.int .i64) (.pair (.pair (.int .i64) (.pair .bool (.pair (.int .i64) (.pair .str (.pair .str (.pair (.int .i64) (.pair (.int .i64) .unit))))))) .unit))), .val (.slice .str)] [.val .bool] [.bool])) := by kernel_rfl

theorem T3 (n : Nat) : Told Try.prog 3 [.slice (.pair (.int .i64) (.pair (.pair (.int .i64) (.pair .bool (.pair (.int .i64) (.pair .str (.pair .str (.pair (.int .i64) (.pair (.int .i64) .unit))))))) .unit)), .slice .str] [.bool] (fun x => F3 n x.1 x.2) := by
  rintro ⟨a0, a1⟩ r h
  exact calls_plain (fn_sound lay3_ok mixed (rvs := [.tmp 4]) (by kernel_rfl : Try.prog.funcs[3]? = some Try.f3) (by kernel_rfl : Try.f3.body = some c3) (by kernel_rfl) (by kernel_rfl) (by kernel_rfl) (GO3 n) noInl_ok (K3 n) ((E3 n a0 a1).symm.trans h)) rfl rfl rfl rfl

/-! ### orthoepy/orthoepylaw18.ArenaTree -/

def F4l2F (n : Nat) (rF4l1 : List Int → Int → List ((Int × (Bool × (Int × (List UInt8 × (List UInt8 × (Int × (Int × Unit))))))) × (Int × (Int × Unit))) → Option (Bool)) (rF4l2 : List Int → Int → List Int → Int → Int → Int → List ((Int × (Bool × (Int × (List UInt8 × (List UInt8 × (Int × (Int × Unit))))))) × (Int × (Int × Unit))) → Option (Bool)) (t0 : List Int) (t6 : Int) (t9 : List Int) (t10 : Int) (t11 : Int) (t12 : Int) (b5000130_0 : List ((Int × (Bool × (Int × (List UInt8 × (List UInt8 × (Int × (Int × Unit))))))) × (Int × (Int × Unit)))) : Option (Bool) :=
  (bif (decide (t12 < ((t9).length : Int))) then
    (bif inB t12 (t9).length then
    (bif (decide (((t9).getD (Int.toNat t12) (Ty.dflt (.int .i64))) ≤ t11)) then
      some false
    else
      (bif inB t12 (t9).length then
      (match F21 n (some (b5000130_0, ())) ((t9).getD (Int.toNat t12) (Ty.dflt (.int .i64))) with
      | some r9 =>
      (bif (r9 != t6) then
        some false
      else
        (bif inB t12 (t9).length then
        (match F22 n (some (b5000130_0, ())) ((t9).getD (Int.toNat t12) (Ty.dflt (.int .i64))) with
        | some r10 =>
        (match F22 n (some (b5000130_0, ())) t6 with
        | some r11 =>
        (bif (r10 != (IntKind.wrap .i64 (r11 + 1))) then
          some false
        else
          (bif inB t12 (t9).length then
          (bif inB t12 (t9).length then
          (match F23 n (some (b5000130_0, ())) ((t9).getD (Int.toNat t12) (Ty.dflt (.int .i64))) with
          | some r12 =>
          rF4l2 t0 t6 t9 (IntKind.wrap .i64 (t10 + r12)) ((t9).getD (Int.toNat t12) (Ty.dflt (.int .i64))) (IntKind.wrap .i64 (t12 + 1)) b5000130_0
          | none => none)
          else none)
          else none))
        | none => none)
        | none => none)
        else none))
      | none => none)
      else none))
    else none)
  else
    (match F23 n (some (b5000130_0, ())) t6 with
    | some r13 =>
    (bif (r13 != t10) then
      some false
    else
      rF4l1 t0 (IntKind.wrap .i64 (t6 + 1)) b5000130_0)
    | none => none))
def F4l2 (n : Nat) (rF4l1 : List Int → Int → List ((Int × (Bool × (Int × (List UInt8 × (List UInt8 × (Int × (Int × Unit))))))) × (Int × (Int × Unit))) → Option (Bool)) : Nat → List Int → Int → List Int → Int → Int → Int → List ((Int × (Bool × (Int × (List UInt8 × (List UInt8 × (Int × (Int × Unit))))))) × (Int × (Int × Unit))) → Option (Bool)
  | 0, _, _, _, _, _, _, _ => none
  | m + 1, t0, t6, t9, t10, t11, t12, b5000130_0 => F4l2F n rF4l1 (F4l2 n rF4l1 m) t0 t6 t9 t10 t11 t12 b5000130_0

def F4l1F (n : Nat) (rF4l1 : List Int → Int → List ((Int × (Bool × (Int × (List UInt8 × (List UInt8 × (Int × (Int × Unit))))))) × (Int × (Int × Unit))) → Option (Bool)) (t0 : List Int) (t6 : Int) (b5000130_0 : List ((Int × (Bool × (Int × (List UInt8 × (List UInt8 × (Int × (Int × Unit))))))) × (Int × (Int × Unit)))) : Option (Bool) :=
  (bif (decide (t6 ≤ ((t0).length : Int))) then
    (match F19 n (some (b5000130_0, ())) t6 with
    | some r7 =>
    (bif (!r7.2) then
      some false
    else
      (bif (!(r7.1.2.2.2.1 == ([] : List UInt8))) then
        some false
      else
        (bif (r7.1.2.2.1 != 0) then
          some false
        else
          (bif r7.1.2.1 then
            some false
          else
            (bif (!(r7.1.2.2.2.2.1 == ([] : List UInt8))) then
              some false
            else
              (match F20 n (some (b5000130_0, ())) t6 with
              | some r8 =>
              F4l2 n rF4l1 n t0 t6 r8 1 t6 0 b5000130_0
              | none => none))))))
    | none => none)
  else
    (match F23 n (some (b5000130_0, ())) 0 with
    | some r14 =>
    (bif (r14 == (IntKind.wrap .i64 (((t0).length : Int) + 1))) then
      (match F13 n (some (b5000130_0, ())) with
      | some r15 =>
      (bif (r15 == (IntKind.wrap .i64 (((t0).length : Int) + 1))) then
        (match F9 n with
        | some r16 =>
        some r16
        | none => none)
      else
        some false)
      | none => none)
    else
      some false)
    | none => none))
def F4l1 (n : Nat) : Nat → List Int → Int → List ((Int × (Bool × (Int × (List UInt8 × (List UInt8 × (Int × (Int × Unit))))))) × (Int × (Int × Unit))) → Option (Bool)
  | 0, _, _, _ => none
  | m + 1, t0, t6, b5000130_0 => F4l1F n (F4l1 n m) t0 t6 b5000130_0

def F4l0F (n : Nat) (rF4l0 : List Int → Int → List ((Int × (Bool × (Int × (List UInt8 × (List UInt8 × (Int × (Int × Unit))))))) × (Int × (Int × Unit))) → Option (Bool)) (t0 : List Int) (t4 : Int) (b5000130_0 : List ((Int × (Bool × (Int × (List UInt8 × (List UInt8 × (Int × (Int × Unit))))))) × (Int × (Int × Unit)))) : Option (Bool) :=
  (bif (decide (t4 < ((t0).length : Int))) then
    (bif inB t4 (t0).length then
    (match F10 n ((t0).getD (Int.toNat t4) (Ty.dflt (.int .i64))) (IntKind.wrap .i64 (t4 + 1)) with
    | some r5 =>
    (match F11 n (b5000130_0, ()) r5 (5, (true, (5, (([110, 111] : List UInt8), (([] : List UInt8), (0, (0, ()))))))) with
    | some r6 =>
    (bif (r6.2 != (IntKind.wrap .i64 (t4 + 1))) then
      some false
    else
      rF4l0 t0 (IntKind.wrap .i64 (t4 + 1)) r6.1.1)
    | none => none)
    | none => none)
    else none)
  else
    F4l1 n n t0 0 b5000130_0)
def F4l0 (n : Nat) : Nat → List Int → Int → List ((Int × (Bool × (Int × (List UInt8 × (List UInt8 × (Int × (Int × Unit))))))) × (Int × (Int × Unit))) → Option (Bool)
  | 0, _, _, _ => none
  | m + 1, t0, t4, b5000130_0 => F4l0F n (F4l0 n m) t0 t4 b5000130_0

def F4 (n : Nat) (a0 : List Int) : Option (Bool) :=
  (match F6 n with
  | some r1 =>
  (bif (decide (((a0).length : Int) > 80)) then
    (bif (decide (((a0).length : Int) > 80)) then
      (match F9 n with
      | some r2 =>
      some r2
      | none => none)
    else
      some false)
  else
    (match F11 n r1 (-1) (5, (false, (0, (([] : List UInt8), (([] : List UInt8), (0, (0, ()))))))) with
    | some r3 =>
    (bif (r3.2 != 0) then
      (bif (decide (((a0).length : Int) > 80)) then
        (match F9 n with
        | some r4 =>
        some r4
        | none => none)
      else
        some false)
    else
      F4l0 n n a0 0 r3.1.1)
    | none => none))
  | none => none)

noncomputable def lay4 : Lay := layOf layL [(6, .io [] [.box (.pair (.vec 57 (.pair (.pair (.int .i64) (.pair .bool (.pair (.int .i64) (.pair .str (.pair .str (.pair (.int .i64) (.pair (.int .i64) .unit))))))) (.pair (.int .i64) (.pair (.int .i64) .unit)))) .unit)]), (11, .io [.box (.pair (.vec 57 (.pair (.pair (.int .i64) (.pair .bool (.pair (.int .i64) (.pair .str (.pair .str (.pair (.int .i64) (.pair (.int .i64) .unit))))))) (.pair (.int .i64) (.pair (.int .i64) .unit)))) .unit), .val (.int .i64), .val (.pair (.int .i64) (.pair .bool (.pair (.int .i64) (.pair .str (.pair .str (.pair (.int .i64) (.pair (.int .i64) .unit)))))))] [.val (.int .i64)]), (13, .borrow [.ref (.pair (.slice (.pair (.pair (.int .i64) (.pair .bool (.pair (.int .i64) (.pair .str (.pair .str (.pair (.int .i64) (.pair (.int .i64) .unit))))))) (.pair (.int .i64) (.pair (.int .i64) .unit)))) .unit)] false), (19, .borrow [.ref (.pair (.slice (.pair (.pair (.int .i64) (.pair .bool (.pair (.int .i64) (.pair .str (.pair .str (.pair (.int .i64) (.pair (.int .i64) .unit))))))) (.pair (.int .i64) (.pair (.int .i64) .unit)))) .unit), .int .i64] false), (20, .borrow [.ref (.pair (.slice (.pair (.pair (.int .i64) (.pair .bool (.pair (.int .i64) (.pair .str (.pair .str (.pair (.int .i64) (.pair (.int .i64) .unit))))))) (.pair (.int .i64) (.pair (.int .i64) .unit)))) .unit), .int .i64] true), (21, .borrow [.ref (.pair (.slice (.pair (.pair (.int .i64) (.pair .bool (.pair (.int .i64) (.pair .str (.pair .str (.pair (.int .i64) (.pair (.int .i64) .unit))))))) (.pair (.int .i64) (.pair (.int .i64) .unit)))) .unit), .int .i64] false), (22, .borrow [.ref (.pair (.slice (.pair (.pair (.int .i64) (.pair .bool (.pair (.int .i64) (.pair .str (.pair .str (.pair (.int .i64) (.pair (.int .i64) .unit))))))) (.pair (.int .i64) (.pair (.int .i64) .unit)))) .unit), .int .i64] false), (23, .borrow [.ref (.pair (.slice (.pair (.pair (.int .i64) (.pair .bool (.pair (.int .i64) (.pair .str (.pair .str (.pair (.int .i64) (.pair (.int .i64) .unit))))))) (.pair (.int .i64) (.pair (.int .i64) .unit)))) .unit), .int .i64] false)]
theorem lay4_ok : LayOK Try.prog lay4 := layOf_ok layAll (by
  intro p hp
  simp only [List.mem_cons, List.not_mem_nil, or_false] at hp
  rcases hp with rfl | rfl | rfl | rfl | rfl | rfl | rfl | rfl
  · exact trivial
  · exact trivial
  · exact trivial
  · exact trivial
  · exact trivial
  · exact trivial
  · exact trivial
  · exact trivial) layEq

noncomputable def c4 : Code := Try.f4.body.getD .skip

noncomputable def G4 (n : Nat) : Ctx (Res [.bool]) := entIo 6 [] [.pair (.slice (.pair (.pair (.int .i64) (.pair .bool (.pair (.int .i64) (.pair .str (.pair .str (.pair (.int .i64) (.pair (.int .i64) .unit))))))) (.pair (.int .i64) (.pair (.int .i64) .unit)))) .unit] (fun x => F6 n ) (ent 9 [] [.bool] (fun x => F9 n ) (ent 10 [.int .i64, .int .i64] [.int .i64] (fun x => F10 n x.1 x.2) (entIo 11 [.pair (.slice (.pair (.pair (.int .i64) (.pair .bool (.pair (.int .i64) (.pair .str (.pair .str (.pair (.int .i64) (.pair (.int .i64) .unit))))))) (.pair (.int .i64) (.pair (.int .i64) .unit)))) .unit, .int .i64, .pair (.int .i64) (.pair .bool (.pair (.int .i64) (.pair .str (.pair .str (.pair (.int .i64) (.pair (.int .i64) .unit))))))] [.pair (.slice (.pair (.pair (.int .i64) (.pair .bool (.pair (.int .i64) (.pair .str (.pair .str (.pair (.int .i64) (.pair (.int .i64) .unit))))))) (.pair (.int .i64) (.pair (.int .i64) .unit)))) .unit, .int .i64] (fun x => F11 n x.1 x.2.1 x.2.2) (ent 13 [.ref (.pair (.slice (.pair (.pair (.int .i64) (.pair .bool (.pair (.int .i64) (.pair .str (.pair .str (.pair (.int .i64) (.pair (.int .i64) .unit))))))) (.pair (.int .i64) (.pair (.int .i64) .unit)))) .unit)] [.int .i64] (fun x => F13 n x) (ent 19 [.ref (.pair (.slice (.pair (.pair (.int .i64) (.pair .bool (.pair (.int .i64) (.pair .str (.pair .str (.pair (.int .i64) (.pair (.int .i64) .unit))))))) (.pair (.int .i64) (.pair (.int .i64) .unit)))) .unit), .int .i64] [.pair (.int .i64) (.pair .bool (.pair (.int .i64) (.pair .str (.pair .str (.pair (.int .i64) (.pair (.int .i64) .unit)))))), .bool] (fun x => F19 n x.1 x.2) (ent 20 [.ref (.pair (.slice (.pair (.pair (.int .i64) (.pair .bool (.pair (.int .i64) (.pair .str (.pair .str (.pair (.int .i64) (.pair (.int .i64) .unit))))))) (.pair (.int .i64) (.pair (.int .i64) .unit)))) .unit), .int .i64] [.slice (.int .i64)] (fun x => F20 n x.1 x.2) (ent 21 [.ref (.pair (.slice (.pair (.pair (.int .i64) (.pair .bool (.pair (.int .i64) (.pair .str (.pair .str (.pair (.int .i64) (.pair (.int .i64) .unit))))))) (.pair (.int .i64) (.pair (.int .i64) .unit)))) .unit), .int .i64] [.int .i64] (fun x => F21 n x.1 x.2) (ent 22 [.ref (.pair (.slice (.pair (.pair (.int .i64) (.pair .bool (.pair (.int .i64) (.pair .str (.pair .str (.pair (.int .i64) (.pair (.int .i64) .unit))))))) (.pair (.int .i64) (.pair (.int .i64) .unit)))) .unit), .int .i64] [.int .i64] (fun x => F22 n x.1 x.2) (ent 23 [.ref (.pair (.slice (.pair (.pair (.int .i64) (.pair .bool (.pair (.int .i64) (.pair .str (.pair .str (.pair (.int .i64) (.pair (.int .i64) .unit))))))) (.pair (.int .i64) (.pair (.int .i64) .unit)))) .unit), .int .i64] [.int .i64] (fun x => F23 n x.1 x.2) (noFns))))))))))

theorem GO4 (n : Nat) : CtxOK Try.prog lay4 (G4 n) := ent_okIo (ps := []) (rss := [.box (.pair (.vec 57 (.pair (.pair (.int .i64) (.pair .bool (.pair (.int .i64) (.pair .str (.pair .str (.pair (.int .i64) (.pair (.int .i64) .unit))))))) (.pair (.int .i64) (.pair (.int .i64) .unit)))) .unit)]) (T6 n) (fun _ _ h => h) (ent_ok (T9 n) (fun _ _ h => h) (ent_ok (T10 n) (fun _ _ h => h) (ent_okIo (ps := [.box (.pair (.vec 57 (.pair (.pair (.int .i64) (.pair .bool (.pair (.int .i64) (.pair .str (.pair .str (.pair (.int .i64) (.pair (.int .i64) .unit))))))) (.pair (.int .i64) (.pair (.int .i64) .unit)))) .unit), .val (.int .i64), .val (.pair (.int .i64) (.pair .bool (.pair (.int .i64) (.pair .str (.pair .str (.pair (.int .i64) (.pair (.int .i64) .unit)))))))]) (rss := [.val (.int .i64)]) (T11 n) (fun _ _ h => h) (ent_ok (T13 n) (fun _ _ h => h) (ent_ok (T19 n) (fun _ _ h => h) (ent_okFresh (TF20 n) (fun _ _ h => h) (ent_ok (T21 n) (fun _ _ h => h) (ent_ok (T22 n) (fun _ _ h => h) (ent_ok (T23 n) (fun _ _ h => h) (noFns_ok))))))))))

noncomputable def P4 (n : Nat) : Pl (Res [.bool]) :=
  (.two .leaf (.two .leaf (.two .leaf (.two (.two .leaf (.one (.loop [.val (.tmp 0) (.slice (.int .i64)), .ptr (.tmp 3) 5000130 0, .val (.tmp 4) (.int .i64), .vec (.cell 5000130 0) 20000000 57 (.pair (.pair (.int .i64) (.pair .bool (.pair (.int .i64) (.pair .str (.pair .str (.pair (.int .i64) (.pair (.int .i64) .unit))))))) (.pair (.int .i64) (.pair (.int .i64) .unit))), .box 5000130 1] n (fun m x => F4l0 n m x.1 x.2.2.1 x.2.2.2.1) (fun _ => .leaf)))) (.two (.two .leaf (.one (.loop [.val (.tmp 0) (.slice (.int .i64)), .ptr (.tmp 3) 5000130 0, .val (.tmp 6) (.int .i64), .vec (.cell 5000130 0) 20000000 57 (.pair (.pair (.int .i64) (.pair .bool (.pair (.int .i64) (.pair .str (.pair .str (.pair (.int .i64) (.pair (.int .i64) .unit))))))) (.pair (.int .i64) (.pair (.int .i64) .unit))), .box 5000130 1] n (fun m x => F4l1 n m x.1 x.2.2.1 x.2.2.2.1) (fun r => let rF4l1 : List Int → Int → List ((Int × (Bool × (Int × (List UInt8 × (List UInt8 × (Int × (Int × Unit))))))) × (Int × (Int × Unit))) → Option (Bool) := (fun y0 y1 y2 => r (y0, (), y1, y2, (), ())); (.two .leaf (.two (.one (.two .leaf (.two .leaf (.two .leaf (.two (.two .leaf (.one (.loop [.val (.tmp 0) (.slice (.int .i64)), .ptr (.tmp 3) 5000130 0, .val (.tmp 6) (.int .i64), .val (.tmp 9) (.slice (.int .i64)), .val (.tmp 10) (.int .i64), .val (.tmp 11) (.int .i64), .val (.tmp 12) (.int .i64), .vec (.cell 5000130 0) 20000000 57 (.pair (.pair (.int .i64) (.pair .bool (.pair (.int .i64) (.pair .str (.pair .str (.pair (.int .i64) (.pair (.int .i64) .unit))))))) (.pair (.int .i64) (.pair (.int .i64) .unit))), .box 5000130 1] n (fun m x => F4l2 n rF4l1 m x.1 x.2.2.1 x.2.2.2.1 x.2.2.2.2.1 x.2.2.2.2.2.1 x.2.2.2.2.2.2.1 x.2.2.2.2.2.2.2.1) (fun _ => .leaf)))) .leaf))))) .leaf)))))) .leaf)))))

theorem K4 (n : Nat) : PlOK (G4 n) noInl lay4 163 (P4 n) c4 (fnK lay4 [.tmp 2] [.val (.slice (.int .i64))] [.val .bool] [.bool]) :=
  ⟨trivial, ⟨trivial, ⟨trivial, ⟨⟨trivial, ⟨by kernel_rfl, fun x => by kernel_rfl, fun m => ⟨fun x => by kernel_rfl, trivial⟩⟩⟩, ⟨⟨trivial, ⟨by kernel_rfl, fun x => by kernel_rfl, fun m => ⟨fun x => by kernel_rfl, ⟨trivial, ⟨⟨trivial, ⟨trivial, ⟨trivial, ⟨⟨trivial, ⟨by kernel_rfl, fun x => by kernel_rfl, fun m => ⟨fun x => by kernel_rfl, trivial⟩⟩⟩, trivial⟩⟩⟩⟩, trivial⟩⟩⟩⟩⟩, trivial⟩⟩⟩⟩⟩

theorem E4 (n : Nat) (a0 : List Int) : F4 n a0 = fnE [.val (.slice (.int .i64))] (argDs [.slice (.int .i64)] (a0)) (fun st => ev (G4 n) noInl lay4 163 c4 (P4 n) st (fnK lay4 [.tmp 2] [.val (.slice (.int .i64))] [.val .bool] [.bool])) := by kernel_rfl

theorem T4 (n : Nat) : Told Try.prog 4 [.slice (.int .i64)] [.bool] (fun x => F4 n x) := by
  rintro a0 r h
  exact calls_plain (fn_sound lay4_ok mixed (rvs := [.tmp 2]) (by kernel_rfl : Try.prog.funcs[4]? = some Try.f4) (by kernel_rfl : Try.f4.body = some c4) (by kernel_rfl) (by kernel_rfl) (by kernel_rfl) (GO4 n) noInl_ok (K4 n) ((E4 n a0).symm.trans h)) rfl rfl rfl rfl

/-! ### orthoepy/orthoepylaw18.ArenaNames -/

def F5j4 (n : Nat) (rF5l2 : List (List UInt8) → Bool → Int → List ((Int × (Bool × (Int × (List UInt8 × (List UInt8 × (Int × (Int × Unit))))))) × (Int × (Int × Unit))) → Option (Bool)) (t0 : List (List UInt8)) (t1 : Bool) (t8 : Int) (t12 : Bool) (t13 : Int) (b11_0 : Int) (b11_1 : Bool) (b11_2 : Int) (b11_3 : List UInt8) (b11_4 : List UInt8) (b11_5 : Int) (b11_6 : Int) (b5000160_0 : List ((Int × (Bool × (Int × (List UInt8 × (List UInt8 × (Int × (Int × Unit))))))) × (Int × (Int × Unit)))) : Option (Bool) :=
  (bif (!t12) then
    some false
  else
    (bif inB t8 (t0).length then
    (match F15 n (some (b5000160_0, ())) 0 ((t0).getD (Int.toNat t8) (Ty.dflt .str)) with
    | some r7 =>
    (bif (r7 != t13) then
      some false
    else
      (bif t1 then
        (bif inB t8 (t0).length then
        (bif (!(b11_4 == ((t0).getD (Int.toNat t8) (Ty.dflt .str)))) then
          some false
        else
          (bif (!t1) then
            (bif (!(b11_4 == ([] : List UInt8))) then
              some false
            else
              rF5l2 t0 t1 (IntKind.wrap .i64 (t8 + 1)) b5000160_0)
          else
            rF5l2 t0 t1 (IntKind.wrap .i64 (t8 + 1)) b5000160_0))
        else none)
      else
        (bif (!t1) then
          (bif (!(b11_4 == ([] : List UInt8))) then
            some false
          else
            rF5l2 t0 t1 (IntKind.wrap .i64 (t8 + 1)) b5000160_0)
        else
          rF5l2 t0 t1 (IntKind.wrap .i64 (t8 + 1)) b5000160_0)))
    | none => none)
    else none))

def F5l3F (n : Nat) (rF5l2 : List (List UInt8) → Bool → Int → List ((Int × (Bool × (Int × (List UInt8 × (List UInt8 × (Int × (Int × Unit))))))) × (Int × (Int × Unit))) → Option (Bool)) (rF5l3 : List (List UInt8) → Bool → Int → Int → Int → List ((Int × (Bool × (Int × (List UInt8 × (List UInt8 × (Int × (Int × Unit))))))) × (Int × (Int × Unit))) → Option (Bool)) (t0 : List (List UInt8)) (t1 : Bool) (t8 : Int) (t9 : Int) (t10 : Int) (b5000160_0 : List ((Int × (Bool × (Int × (List UInt8 × (List UInt8 × (Int × (Int × Unit))))))) × (Int × (Int × Unit)))) : Option (Bool) :=
  (bif (decide (t10 ≥ 0)) then
    (bif inB t10 (t0).length then
    (bif inB t8 (t0).length then
    (bif (((t0).getD (Int.toNat t10) (Ty.dflt .str)) == ((t0).getD (Int.toNat t8) (Ty.dflt .str))) then
      rF5l3 t0 t1 t8 t10 (IntKind.wrap .i64 (t10 - 1)) b5000160_0
    else
      rF5l3 t0 t1 t8 t9 (IntKind.wrap .i64 (t10 - 1)) b5000160_0)
    else none)
    else none)
  else
    (match F19 n (some (b5000160_0, ())) (IntKind.wrap .i64 (t8 + 1)) with
    | some r6 =>
    (bif t1 then
      F5j4 n rF5l2 t0 t1 t8 r6.2 (IntKind.wrap .i64 (t9 + 1)) r6.1.1 r6.1.2.1 r6.1.2.2.1 r6.1.2.2.2.1 r6.1.2.2.2.2.1 r6.1.2.2.2.2.2.1 r6.1.2.2.2.2.2.2.1 b5000160_0
    else
      F5j4 n rF5l2 t0 t1 t8 r6.2 (-1) r6.1.1 r6.1.2.1 r6.1.2.2.1 r6.1.2.2.2.1 r6.1.2.2.2.2.1 r6.1.2.2.2.2.2.1 r6.1.2.2.2.2.2.2.1 b5000160_0)
    | none => none))
def F5l3 (n : Nat) (rF5l2 : List (List UInt8) → Bool → Int → List ((Int × (Bool × (Int × (List UInt8 × (List UInt8 × (Int × (Int × Unit))))))) × (Int × (Int × Unit))) → Option (Bool)) : Nat → List (List UInt8) → Bool → Int → Int → Int → List ((Int × (Bool × (Int × (List UInt8 × (List UInt8 × (Int × (Int × Unit))))))) × (Int × (Int × Unit))) → Option (Bool)
  | 0, _, _, _, _, _, _ => none
  | m + 1, t0, t1, t8, t9, t10, b5000160_0 => F5l3F n rF5l2 (F5l3 n rF5l2 m) t0 t1 t8 t9 t10 b5000160_0

def F5l2F (n : Nat) (rF5l2 : List (List UInt8) → Bool → Int → List ((Int × (Bool × (Int × (List UInt8 × (List UInt8 × (Int × (Int × Unit))))))) × (Int × (Int × Unit))) → Option (Bool)) (t0 : List (List UInt8)) (t1 : Bool) (t8 : Int) (b5000160_0 : List ((Int × (Bool × (Int × (List UInt8 × (List UInt8 × (Int × (Int × Unit))))))) × (Int × (Int × Unit)))) : Option (Bool) :=
  (bif (decide (t8 < ((t0).length : Int))) then
    F5l3 n rF5l2 n t0 t1 t8 t8 (IntKind.wrap .i64 (t8 - 1)) b5000160_0
  else
    (match F19 n (some (b5000160_0, ())) 0 with
    | some r8 =>
    (bif r8.2 then
      (bif (r8.1.2.2.2.2.1 == ([] : List UInt8)) then
        (match F9 n with
        | some r9 =>
        some r9
        | none => none)
      else
        some false)
    else
      some false)
    | none => none))
def F5l2 (n : Nat) : Nat → List (List UInt8) → Bool → Int → List ((Int × (Bool × (Int × (List UInt8 × (List UInt8 × (Int × (Int × Unit))))))) × (Int × (Int × Unit))) → Option (Bool)
  | 0, _, _, _, _ => none
  | m + 1, t0, t1, t8, b5000160_0 => F5l2F n (F5l2 n m) t0 t1 t8 b5000160_0

def F5l1F (n : Nat) (rF5l1 : List (List UInt8) → Bool → Int → List ((Int × (Bool × (Int × (List UInt8 × (List UInt8 × (Int × (Int × Unit))))))) × (Int × (Int × Unit))) → Option (Bool)) (t0 : List (List UInt8)) (t1 : Bool) (t7 : Int) (b5000160_0 : List ((Int × (Bool × (Int × (List UInt8 × (List UInt8 × (Int × (Int × Unit))))))) × (Int × (Int × Unit)))) : Option (Bool) :=
  (bif (decide (t7 < ((t0).length : Int))) then
    (bif inB t7 (t0).length then
    (match F11 n (b5000160_0, ()) 0 (3, (false, (t7, (([] : List UInt8), (((t0).getD (Int.toNat t7) (Ty.dflt .str)), (0, (0, ()))))))) with
    | some r5 =>
    (bif (r5.2 != (IntKind.wrap .i64 (t7 + 1))) then
      some false
    else
      rF5l1 t0 t1 (IntKind.wrap .i64 (t7 + 1)) r5.1.1)
    | none => none)
    else none)
  else
    F5l2 n n t0 t1 0 b5000160_0)
def F5l1 (n : Nat) : Nat → List (List UInt8) → Bool → Int → List ((Int × (Bool × (Int × (List UInt8 × (List UInt8 × (Int × (Int × Unit))))))) × (Int × (Int × Unit))) → Option (Bool)
  | 0, _, _, _, _ => none
  | m + 1, t0, t1, t7, b5000160_0 => F5l1F n (F5l1 n m) t0 t1 t7 b5000160_0

def F5j0 (n : Nat) (t0 : List (List UInt8)) (t1 : Bool) (t6 : Int) (b5000160_0 : List ((Int × (Bool × (Int × (List UInt8 × (List UInt8 × (Int × (Int × Unit))))))) × (Int × (Int × Unit)))) : Option (Bool) :=
  (match F11 n (b5000160_0, ()) (-1) (t6, (false, (0, (([] : List UInt8), (([114, 111, 111, 116] : List UInt8), (0, (0, ()))))))) with
  | some r4 =>
  F5l1 n n t0 t1 0 r4.1.1
  | none => none)

def F5 (n : Nat) (a0 : List (List UInt8)) (a1 : Bool) : Option (Bool) :=
  (match F6 n with
  | some r1 =>
  (match F8 n a0 with
  | some r2 =>
  (bif (!r2) then
    (match F9 n with
    | some r3 =>
    some r3
    | none => none)
  else
    (bif a1 then
      F5j0 n a0 a1 6 r1.1
    else
      F5j0 n a0 a1 5 r1.1))
  | none => none)
  | none => none)

noncomputable def lay5 : Lay := layOf layL [(6, .io [] [.box (.pair (.vec 57 (.pair (.pair (.int .i64) (.pair .bool (.pair (.int .i64) (.pair .str (.pair .str (.pair (.int .i64) (.pair (.int .i64) .unit))))))) (.pair (.int .i64) (.pair (.int .i64) .unit)))) .unit)]), (11, .io [.box (.pair (.vec 57 (.pair (.pair (.int .i64) (.pair .bool (.pair (.int .i64) (.pair .str (.pair .str (.pair (.int .i64) (.pair (.int .i64) .unit))))))) (.pair (.int .i64) (.pair (.int .i64) .unit)))) .unit), .val (.int .i64), .val (.pair (.int .i64) (.pair .bool (.pair (.int .i64) (.pair .str (.pair .str (.pair (.int .i64) (.pair (.int .i64) .unit)))))))] [.val (.int .i64)]), (15, .borrow [.ref (.pair (.slice (.pair (.pair (.int .i64) (.pair .bool (.pair (.int .i64) (.pair .str (.pair .str (.pair (.int .i64) (.pair (.int .i64) .unit))))))) (.pair (.int .i64) (.pair (.int .i64) .unit)))) .unit), .int .i64, .str] false), (19, .borrow [.ref (.pair (.slice (.pair (.pair (.int .i64) (.pair .bool (.pair (.int .i64) (.pair .str (.pair .str (.pair (.int .i64) (.pair (.int .i64) .unit))))))) (.pair (.int .i64) (.pair (.int .i64) .unit)))) .unit), .int .i64] false)]
theorem lay5_ok : LayOK Try.prog lay5 := layOf_ok layAll (by
  intro p hp
  simp only [List.mem_cons, List.not_mem_nil, or_false] at hp
  rcases hp with rfl | rfl | rfl | rfl
  · exact trivial
  · exact trivial
  · exact trivial
  · exact trivial) layEq

noncomputable def c5 : Code := Try.f5.body.getD .skip

noncomputable def G5 (n : Nat) : Ctx (Res [.bool]) := entIo 6 [] [.pair (.slice (.pair (.pair (.int .i64) (.pair .bool (.pair (.int .i64) (.pair .str (.pair .str (.pair (.int .i64) (.pair (.int .i64) .unit))))))) (.pair (.int .i64) (.pair (.int .i64) .unit)))) .unit] (fun x => F6 n ) (ent 8 [.slice .str] [.bool] (fun x => F8 n x) (ent 9 [] [.bool] (fun x => F9 n ) (entIo 11 [.pair (.slice (.pair (.pair (.int .i64) (.pair .bool (.pair (.int .i64) (.pair .str (.pair .str (.pair (.int .i64) (.pair (.int .i64) .unit))))))) (.pair (.int .i64) (.pair (.int .i64) .unit)))) .unit, .int .i64, .pair (.int .i64) (.pair .bool (.pair (.int .i64) (.pair .str (.pair .str (.pair (.int .i64) (.pair (.int .i64) .unit))))))] [.pair (.slice (.pair (.pair (.int .i64) (.pair .bool (.pair (.int .i64) (.pair .str (.pair .str (.pair (.int .i64) (.pair (.int .i64) .unit))))))) (.pair (.int .i64) (.pair (.int .i64) .unit)))) .unit, .int .i64] (fun x => F11 n x.1 x.2.1 x.2.2) (ent 15 [.ref (.pair (.slice (.pair (.pair (.int .i64) (.pair .bool (.pair (.int .i64) (.pair .str (.pair .str (.pair (.int .i64) (.pair (.int .i64) .unit))))))) (.pair (.int .i64) (.pair (.int .i64) .unit)))) .unit), .int .i64, .str] [.int .i64] (fun x => F15 n x.1 x.2.1 x.2.2) (ent 19 [.ref (.pair (.slice (.pair (.pair (.int .i64) (.pair .bool (.pair (.int .i64) (.pair .str (.pair .str (.pair (.int .i64) (.pair (.int .i64) .unit))))))) (.pair (.int .i64) (.pair (.int .i64) .unit)))) .unit), .int .i64] [.pair (.int .i64) (.pair .bool (.pair (.int .i64) (.pair .str (.pair .str (.pair (.int .i64) (.pair (.int .i64) .unit)))))), .bool] (fun x => F19 n x.1 x.2) (noFns))))))

theorem GO5 (n : Nat) : CtxOK Try.prog lay5 (G5 n) := ent_okIo (ps := []) (rss := [.box (.pair (.vec 57 (.pair (.pair (.int .i64) (.pair .bool (.pair (.int .i64) (.pair .str (.pair .str (.pair (.int .i64) (.pair (.int .i64) .unit))))))) (.pair (.int .i64) (.pair (.int .i64) .unit)))) .unit)]) (T6 n) (fun _ _ h => h) (ent_ok (T8 n) (fun _ _ h => h) (ent_ok (T9 n) (fun _ _ h => h) (ent_okIo (ps := [.box (.pair (.vec 57 (.pair (.pair (.int .i64) (.pair .bool (.pair (.int .i64) (.pair .str (.pair .str (.pair (.int .i64) (.pair (.int .i64) .unit))))))) (.pair (.int .i64) (.pair (.int .i64) .unit)))) .unit), .val (.int .i64), .val (.pair (.int .i64) (.pair .bool (.pair (.int .i64) (.pair .str (.pair .str (.pair (.int .i64) (.pair (.int .i64) .unit)))))))]) (rss := [.val (.int .i64)]) (T11 n) (fun _ _ h => h) (ent_ok (T15 n) (fun _ _ h => h) (ent_ok (T19 n) (fun _ _ h => h) (noFns_ok))))))

noncomputable def P5 (n : Nat) : Pl (Res [.bool]) :=
  (.two .leaf (.two .leaf (.two .leaf (.two .leaf (.join [.val (.tmp 0) (.slice .str), .val (.tmp 1) .bool, .ptr (.tmp 5) 5000160 0, .val (.tmp 6) (.int .i64), .vec (.cell 5000160 0) 20000000 57 (.pair (.pair (.int .i64) (.pair .bool (.pair (.int .i64) (.pair .str (.pair .str (.pair (.int .i64) (.pair (.int .i64) .unit))))))) (.pair (.int .i64) (.pair (.int .i64) .unit))), .box 5000160 1] (fun x => F5j0 n x.1 x.2.1 x.2.2.2.1 x.2.2.2.2.1) .leaf (.two .leaf (.two (.two .leaf (.one (.loop [.val (.tmp 0) (.slice .str), .val (.tmp 1) .bool, .ptr (.tmp 5) 5000160 0, .val (.tmp 7) (.int .i64), .vec (.cell 5000160 0) 20000000 57 (.pair (.pair (.int .i64) (.pair .bool (.pair (.int .i64) (.pair .str (.pair .str (.pair (.int .i64) (.pair (.int .i64) .unit))))))) (.pair (.int .i64) (.pair (.int .i64) .unit))), .box 5000160 1] n (fun m x => F5l1 n m x.1 x.2.1 x.2.2.2.1 x.2.2.2.2.1) (fun _ => .leaf)))) (.two (.two .leaf (.one (.loop [.val (.tmp 0) (.slice .str), .val (.tmp 1) .bool, .ptr (.tmp 5) 5000160 0, .val (.tmp 8) (.int .i64), .vec (.cell 5000160 0) 20000000 57 (.pair (.pair (.int .i64) (.pair .bool (.pair (.int .i64) (.pair .str (.pair .str (.pair (.int .i64) (.pair (.int .i64) .unit))))))) (.pair (.int .i64) (.pair (.int .i64) .unit))), .box 5000160 1] n (fun m x => F5l2 n m x.1 x.2.1 x.2.2.2.1 x.2.2.2.2.1) (fun r => let rF5l2 : List (List UInt8) → Bool → Int → List ((Int × (Bool × (Int × (List UInt8 × (List UInt8 × (Int × (Int × Unit))))))) × (Int × (Int × Unit))) → Option (Bool) := (fun y0 y1 y2 y3 => r (y0, y1, (), y2, y3, (), ())); (.two .leaf (.two (.one (.two .leaf (.two (.two .leaf (.one (.loop [.val (.tmp 0) (.slice .str), .val (.tmp 1) .bool, .ptr (.tmp 5) 5000160 0, .val (.tmp 8) (.int .i64), .val (.tmp 9) (.int .i64), .val (.tmp 10) (.int .i64), .vec (.cell 5000160 0) 20000000 57 (.pair (.pair (.int .i64) (.pair .bool (.pair (.int .i64) (.pair .str (.pair .str (.pair (.int .i64) (.pair (.int .i64) .unit))))))) (.pair (.int .i64) (.pair (.int .i64) .unit))), .box 5000160 1] n (fun m x => F5l3 n rF5l2 m x.1 x.2.1 x.2.2.2.1 x.2.2.2.2.1 x.2.2.2.2.2.1 x.2.2.2.2.2.2.1) (fun _ => .leaf)))) (.two .leaf (.two .leaf (.join [.val (.tmp 0) (.slice .str), .val (.tmp 1) .bool, .ptr (.tmp 5) 5000160 0, .val (.tmp 8) (.int .i64), .ptr (.tmp 11) 11 0, .val (.tmp 12) .bool, .val (.tmp 13) (.int .i64), .val (.cell 11 0) (.int .i64), .val (.cell 11 1) .bool, .val (.cell 11 2) (.int .i64), .val (.cell 11 3) .str, .val (.cell 11 4) .str, .val (.cell 11 5) (.int .i64), .val (.cell 11 6) (.int .i64), .vec (.cell 5000160 0) 20000000 57 (.pair (.pair (.int .i64) (.pair .bool (.pair (.int .i64) (.pair .str (.pair .str (.pair (.int .i64) (.pair (.int .i64) .unit))))))) (.pair (.int .i64) (.pair (.int .i64) .unit))), .box 11 7, .box 5000160 1] (fun x => F5j4 n rF5l2 x.1 x.2.1 x.2.2.2.1 x.2.2.2.2.2.1 x.2.2.2.2.2.2.1 x.2.2.2.2.2.2.2.1 x.2.2.2.2.2.2.2.2.1 x.2.2.2.2.2.2.2.2.2.1 x.2.2.2.2.2.2.2.2.2.2.1 x.2.2.2.2.2.2.2.2.2.2.2.1 x.2.2.2.2.2.2.2.2.2.2.2.2.1 x.2.2.2.2.2.2.2.2.2.2.2.2.2.1 x.2.2.2.2.2.2.2.2.2.2.2.2.2.2.1) .leaf .leaf)))))) .leaf)))))) .leaf))))))))

theorem K5 (n : Nat) : PlOK (G5 n) noInl lay5 131 (P5 n) c5 (fnK lay5 [.tmp 4] [.val (.slice .str), .val .bool] [.val .bool] [.bool]) :=
  ⟨trivial, ⟨trivial, ⟨trivial, ⟨trivial, ⟨by kernel_rfl, fun x => by kernel_rfl, trivial, ⟨trivial, ⟨⟨trivial, ⟨by kernel_rfl, fun x => by kernel_rfl, fun m => ⟨fun x => by kernel_rfl, trivial⟩⟩⟩, ⟨⟨trivial, ⟨by kernel_rfl, fun x => by kernel_rfl, fun m => ⟨fun x => by kernel_rfl, ⟨trivial, ⟨⟨trivial, ⟨⟨trivial, ⟨by kernel_rfl, fun x => by kernel_rfl, fun m => ⟨fun x => by kernel_rfl, trivial⟩⟩⟩, ⟨trivial, ⟨trivial, ⟨by kernel_rfl, fun x => by kernel_rfl, trivial, trivial⟩⟩⟩⟩⟩, trivial⟩⟩⟩⟩⟩, trivial⟩⟩⟩⟩⟩⟩⟩⟩

theorem E5 (n : Nat) (a0 : List (List UInt8)) (a1 : Bool) : F5 n a0 a1 = fnE [.val (.slice .str), .val .bool] (argDs [.slice .str, .bool] (a0, a1)) (fun st => ev (G5 n) noInl lay5 131 c5 (P5 n) st (fnK lay5 [.tmp 4] [.val (.slice .str), .val .bool] [.val .bool] [.bool])) := by kernel_rfl

theorem T5 (n : Nat) : Told Try.prog 5 [.slice .str, .bool] [.bool] (fun x => F5 n x.1 x.2) := by
  rintro ⟨a0, a1⟩ r h
  exact calls_plain (fn_sound lay5_ok mixed (rvs := [.tmp 4]) (by kernel_rfl : Try.prog.funcs[5]? = some Try.f5) (by kernel_rfl : Try.f5.body = some c5) (by kernel_rfl) (by kernel_rfl) (by kernel_rfl) (GO5 n) noInl_ok (K5 n) ((E5 n a0 a1).symm.trans h)) rfl rfl rfl rfl

end Go.Proofs.Ytoonknmckeggaaa.Ab
