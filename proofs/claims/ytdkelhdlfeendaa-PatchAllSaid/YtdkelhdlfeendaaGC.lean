/- Functions of the program as Lean functions. Printed by wip/gen/gen3.py. -/
import Derived.Test.YtdkelhdlfeendaaGB
namespace Go.Proofs.Ytdkelhdlfeendaa.Ab
open Go Go.RowKit Go.Proofs
set_option maxRecDepth 100000
set_option maxHeartbeats 4000000
set_option linter.unusedVariables false

/-! ### orthoepy/orthoepylaw26.PatchAll -/

def F3 (n : Nat) (a0 : List (Int × (Int × (Bool × (Int × (List UInt8 × (List UInt8 × (Bool × Unit)))))))) (a1 : List (Int × (Int × (Bool × (Int × (List UInt8 × (List UInt8 × (Bool × Unit)))))))) : Option (Bool) :=
  (match F9 n a0 with
  | some r1 =>
  (bif (!r1) then
    (match A10 with
    | some r2 =>
    some r2
    | none => none)
  else
    (match F9 n a1 with
    | some r3 =>
    (bif (!r3) then
      (match A10 with
      | some r4 =>
      some r4
      | none => none)
    else
      (match F11 n with
      | some r5 =>
      (match F12 n a0 0 with
      | some r6 =>
      (match F12 n a1 0 with
      | some r7 =>
      (match F13 n r5 (V.mk r6.kind r6.b r6.n r6.s r6.names r6.kids) with
      | some r8 =>
      (bif (!r8) then
        (match A10 with
        | some r9 =>
        some r9
        | none => none)
      else
        (match F13 n r5 (V.mk r7.kind r7.b r7.n r7.s r7.names r7.kids) with
        | some r10 =>
        (bif (!r10) then
          (match A10 with
          | some r11 =>
          some r11
          | none => none)
        else
          (match F15 n (V.mk r6.kind r6.b r6.n r6.s r6.names r6.kids) (V.mk r7.kind r7.b r7.n r7.s r7.names r7.kids) with
          | some r12 =>
          (match F16 n (V.mk r6.kind r6.b r6.n r6.s r6.names r6.kids) (V.mk r7.kind r7.b r7.n r7.s r7.names r7.kids) with
          | some r13 =>
          (match F14 n r12 r13 with
          | some r14 =>
          (bif r14 then
            (match F15 n (V.mk 0 false 0 ([] : List UInt8) ([] : List (List UInt8)) ([] : List V)) (V.mk r7.kind r7.b r7.n r7.s r7.names r7.kids) with
            | some r15 =>
            (match F16 n (V.mk 0 false 0 ([] : List UInt8) ([] : List (List UInt8)) ([] : List V)) (V.mk r7.kind r7.b r7.n r7.s r7.names r7.kids) with
            | some r16 =>
            (match F14 n r15 r16 with
            | some r17 =>
            (bif r17 then
              (match A10 with
              | some r18 =>
              some r18
              | none => none)
            else
              some false)
            | none => none)
            | none => none)
            | none => none)
          else
            some false)
          | none => none)
          | none => none)
          | none => none))
        | none => none))
      | none => none)
      | none => none)
      | none => none)
      | none => none))
    | none => none))
  | none => none)

noncomputable def c3 : Code := Try.f3.body.getD .skip

noncomputable def G3 (n : Nat) : Ctx (Res [.bool]) := ent 9 [.slice (.pair (.int .i64) (.pair (.int .i64) (.pair .bool (.pair (.int .i64) (.pair .str (.pair .str (.pair .bool .unit)))))))] [.bool] (fun x => F9 n x) (ent 10 [] [.bool] (fun x => A10 ) (ent 11 [] [.ref (.pair (.map (.int .i32) (.int .i64)) (.pair (.map (.int .i32) (.arr 2 (.int .i32))) (.pair (.map (.int .i32) (.int .i32)) (.pair (.map (.arr 2 (.int .i32)) (.int .i32)) (.pair (.map (.int .i32) (.int .i64)) (.pair (.int .i64) .unit))))))] (fun x => F11 n ) (ent 12 [.slice (.pair (.int .i64) (.pair (.int .i64) (.pair .bool (.pair (.int .i64) (.pair .str (.pair .str (.pair .bool .unit))))))), .int .i64] [.value] (fun x => F12 n x.1 x.2) (ent 13 [.ref (.pair (.map (.int .i32) (.int .i64)) (.pair (.map (.int .i32) (.arr 2 (.int .i32))) (.pair (.map (.int .i32) (.int .i32)) (.pair (.map (.arr 2 (.int .i32)) (.int .i32)) (.pair (.map (.int .i32) (.int .i64)) (.pair (.int .i64) .unit)))))), .value] [.bool] (fun x => F13 n x.1 x.2) (ent 14 [.value, .value] [.bool] (fun x => F14 n x.1 x.2) (ent 15 [.value, .value] [.value] (fun x => F15 n x.1 x.2) (ent 16 [.value, .value] [.value] (fun x => F16 n x.1 x.2) (noFns))))))))

theorem GO3 (n : Nat) : CtxOK Try.prog lay0 (G3 n) := ent_ok (T9 n) (fun _ _ h => h) (ent_ok TA10 (fun _ _ h => h) (ent_ok (T11 n) (fun _ _ h => h) (ent_ok (T12 n) (fun _ _ h => h) (ent_ok (T13 n) (fun _ _ h => h) (ent_ok (T14 n) (fun _ _ h => h) (ent_ok (T15 n) (fun _ _ h => h) (ent_ok (T16 n) (fun _ _ h => h) (noFns_ok))))))))

noncomputable def P3 (n : Nat) : Pl (Res [.bool]) :=
  .leaf

theorem K3 (n : Nat) : PlOK (G3 n) noInl lay0 54 (P3 n) c3 (fnK lay0 [.tmp 4] [.val (.slice (.pair (.int .i64) (.pair (.int .i64) (.pair .bool (.pair (.int .i64) (.pair .str (.pair .str (.pair .bool .unit)))))))), .val (.slice (.pair (.int .i64) (.pair (.int .i64) (.pair .bool (.pair (.int .i64) (.pair .str (.pair .str (.pair .bool .unit))))))))] [.val .bool] [.bool]) :=
  trivial

theorem E3 (n : Nat) (a0 : List (Int × (Int × (Bool × (Int × (List UInt8 × (List UInt8 × (Bool × Unit)))))))) (a1 : List (Int × (Int × (Bool × (Int × (List UInt8 × (List UInt8 × (Bool × Unit)))))))) : F3 n a0 a1 = fnE [.val (.slice (.pair (.int .i64) (.pair (.int .i64) (.pair .bool (.pair (.int .i64) (.pair .str (.pair .str (.pair .bool .unit)))))))), .val (.slice (.pair (.int .i64) (.pair (.int .i64) (.pair .bool (.pair (.int .i64) (.pair .str (.pair .str (.pair .bool .unit))))))))] (argDs [.slice (.pair (.int .i64) (.pair (.int .i64) (.pair .bool (.pair (.int .i64) (.pair .str (.pair .str (.pair .bool .unit))))))), .slice (.pair (.int .i64) (.pair (.int .i64) (.pair .bool (.pair (.int .i64) (.pair .str (.pair .str (.pair .bool .unit)))))))] (a0, a1)) (fun st => ev (G3 n) noInl lay0 54 c3 (P3 n) st (fnK lay0 [.tmp 4] [.val (.slice (.pair (.int .i64) (.pair (.int .i64) (.pair .bool (.pair (.int .i64) (.pair .str (.pair .str (.pair .bool .unit)))))))), .val (.slice (.pair (.int .i64) (.pair (.int .i64) (.pair .bool (.pair (.int .i64) (.pair .str (.pair .str (.pair .bool .unit))))))))] [.val .bool] [.bool])) := by kernel_rfl

theorem T3 (n : Nat) : Told Try.prog 3 [.slice (.pair (.int .i64) (.pair (.int .i64) (.pair .bool (.pair (.int .i64) (.pair .str (.pair .str (.pair .bool .unit))))))), .slice (.pair (.int .i64) (.pair (.int .i64) (.pair .bool (.pair (.int .i64) (.pair .str (.pair .str (.pair .bool .unit)))))))] [.bool] (fun x => F3 n x.1 x.2) := by
  rintro ⟨a0, a1⟩ r h
  exact calls_plain (fn_sound lay0_ok mixed (rvs := [.tmp 4]) (by kernel_rfl : Try.prog.funcs[3]? = some Try.f3) (by kernel_rfl : Try.f3.body = some c3) (by kernel_rfl) (by kernel_rfl) (by kernel_rfl) (GO3 n) noInl_ok (K3 n) ((E3 n a0 a1).symm.trans h)) rfl rfl rfl rfl

/-! ### orthoepy/orthoepylaw26.PatchAgain -/

def F4 (n : Nat) (a0 : List Int) (a1 : List Int) : Option (Bool) :=
  (bif (decide (((a0).length : Int) > 60)) then
    (match A10 with
    | some r1 =>
    some r1
    | none => none)
  else
    (bif (decide (((a1).length : Int) > 60)) then
      (match A10 with
      | some r2 =>
      some r2
      | none => none)
    else
      (match F17 n a0 with
      | some r3 =>
      (match F17 n a1 with
      | some r4 =>
      (match F15 n (V.mk r3.kind r3.b r3.n r3.s r3.names r3.kids) (V.mk r4.kind r4.b r4.n r4.s r4.names r4.kids) with
      | some r5 =>
      (match F11 n with
      | some r6 =>
      (match F13 n r6 (V.mk r5.kind r5.b r5.n r5.s r5.names r5.kids) with
      | some r7 =>
      (bif (!r7) then
        (match A10 with
        | some r8 =>
        some r8
        | none => none)
      else
        (match F15 n (V.mk r5.kind r5.b r5.n r5.s r5.names r5.kids) (V.mk r4.kind r4.b r4.n r4.s r4.names r4.kids) with
        | some r9 =>
        (match F14 n r9 (V.mk r5.kind r5.b r5.n r5.s r5.names r5.kids) with
        | some r10 =>
        (bif r10 then
          (match A10 with
          | some r11 =>
          some r11
          | none => none)
        else
          some false)
        | none => none)
        | none => none))
      | none => none)
      | none => none)
      | none => none)
      | none => none)
      | none => none)))

noncomputable def c4 : Code := Try.f4.body.getD .skip

noncomputable def G4 (n : Nat) : Ctx (Res [.bool]) := ent 10 [] [.bool] (fun x => A10 ) (ent 11 [] [.ref (.pair (.map (.int .i32) (.int .i64)) (.pair (.map (.int .i32) (.arr 2 (.int .i32))) (.pair (.map (.int .i32) (.int .i32)) (.pair (.map (.arr 2 (.int .i32)) (.int .i32)) (.pair (.map (.int .i32) (.int .i64)) (.pair (.int .i64) .unit))))))] (fun x => F11 n ) (ent 13 [.ref (.pair (.map (.int .i32) (.int .i64)) (.pair (.map (.int .i32) (.arr 2 (.int .i32))) (.pair (.map (.int .i32) (.int .i32)) (.pair (.map (.arr 2 (.int .i32)) (.int .i32)) (.pair (.map (.int .i32) (.int .i64)) (.pair (.int .i64) .unit)))))), .value] [.bool] (fun x => F13 n x.1 x.2) (ent 14 [.value, .value] [.bool] (fun x => F14 n x.1 x.2) (ent 15 [.value, .value] [.value] (fun x => F15 n x.1 x.2) (ent 17 [.slice (.int .i64)] [.value] (fun x => F17 n x) (noFns))))))

theorem GO4 (n : Nat) : CtxOK Try.prog lay0 (G4 n) := ent_ok TA10 (fun _ _ h => h) (ent_ok (T11 n) (fun _ _ h => h) (ent_ok (T13 n) (fun _ _ h => h) (ent_ok (T14 n) (fun _ _ h => h) (ent_ok (T15 n) (fun _ _ h => h) (ent_ok (T17 n) (fun _ _ h => h) (noFns_ok))))))

noncomputable def P4 (n : Nat) : Pl (Res [.bool]) :=
  .leaf

theorem K4 (n : Nat) : PlOK (G4 n) noInl lay0 37 (P4 n) c4 (fnK lay0 [.tmp 4] [.val (.slice (.int .i64)), .val (.slice (.int .i64))] [.val .bool] [.bool]) :=
  trivial

theorem E4 (n : Nat) (a0 : List Int) (a1 : List Int) : F4 n a0 a1 = fnE [.val (.slice (.int .i64)), .val (.slice (.int .i64))] (argDs [.slice (.int .i64), .slice (.int .i64)] (a0, a1)) (fun st => ev (G4 n) noInl lay0 37 c4 (P4 n) st (fnK lay0 [.tmp 4] [.val (.slice (.int .i64)), .val (.slice (.int .i64))] [.val .bool] [.bool])) := by kernel_rfl

theorem T4 (n : Nat) : Told Try.prog 4 [.slice (.int .i64), .slice (.int .i64)] [.bool] (fun x => F4 n x.1 x.2) := by
  rintro ⟨a0, a1⟩ r h
  exact calls_plain (fn_sound lay0_ok mixed (rvs := [.tmp 4]) (by kernel_rfl : Try.prog.funcs[4]? = some Try.f4) (by kernel_rfl : Try.f4.body = some c4) (by kernel_rfl) (by kernel_rfl) (by kernel_rfl) (GO4 n) noInl_ok (K4 n) ((E4 n a0 a1).symm.trans h)) rfl rfl rfl rfl

/-! ### orthoepy/orthoepylaw26.PatchMakes -/

def F8 (n : Nat) (a0 : List Int) (a1 : List Int) : Option (Bool) :=
  (match F17 n a0 with
  | some r1 =>
  (match F17 n a1 with
  | some r2 =>
  (match F19 n r2 with
  | some r3 =>
  (match F20 n (V.mk r1.kind r1.b r1.n r1.s r1.names r1.kids) (V.mk r3.kind r3.b r3.n r3.s r3.names r3.kids) with
  | some r4 =>
  (bif (decide (((a0).length : Int) > 60)) then
    (match A10 with
    | some r5 =>
    some r5
    | none => none)
  else
    (bif (decide (((a1).length : Int) > 60)) then
      (match A10 with
      | some r6 =>
      some r6
      | none => none)
    else
      (match F11 n with
      | some r7 =>
      (match F13 n r7 (V.mk r4.kind r4.b r4.n r4.s r4.names r4.kids) with
      | some r8 =>
      (bif (!r8) then
        (match A10 with
        | some r9 =>
        some r9
        | none => none)
      else
        (match F15 n (V.mk r1.kind r1.b r1.n r1.s r1.names r1.kids) (V.mk r4.kind r4.b r4.n r4.s r4.names r4.kids) with
        | some r10 =>
        (match F21 n r10 (V.mk r3.kind r3.b r3.n r3.s r3.names r3.kids) with
        | some r11 =>
        (bif r11 then
          (match A10 with
          | some r12 =>
          some r12
          | none => none)
        else
          some false)
        | none => none)
        | none => none))
      | none => none)
      | none => none)))
  | none => none)
  | none => none)
  | none => none)
  | none => none)

noncomputable def c8 : Code := Try.f8.body.getD .skip

noncomputable def G8 (n : Nat) : Ctx (Res [.bool]) := ent 10 [] [.bool] (fun x => A10 ) (ent 11 [] [.ref (.pair (.map (.int .i32) (.int .i64)) (.pair (.map (.int .i32) (.arr 2 (.int .i32))) (.pair (.map (.int .i32) (.int .i32)) (.pair (.map (.arr 2 (.int .i32)) (.int .i32)) (.pair (.map (.int .i32) (.int .i64)) (.pair (.int .i64) .unit))))))] (fun x => F11 n ) (ent 13 [.ref (.pair (.map (.int .i32) (.int .i64)) (.pair (.map (.int .i32) (.arr 2 (.int .i32))) (.pair (.map (.int .i32) (.int .i32)) (.pair (.map (.arr 2 (.int .i32)) (.int .i32)) (.pair (.map (.int .i32) (.int .i64)) (.pair (.int .i64) .unit)))))), .value] [.bool] (fun x => F13 n x.1 x.2) (ent 15 [.value, .value] [.value] (fun x => F15 n x.1 x.2) (ent 17 [.slice (.int .i64)] [.value] (fun x => F17 n x) (ent 19 [.value] [.value] (fun x => F19 n x) (ent 20 [.value, .value] [.value] (fun x => F20 n x.1 x.2) (ent 21 [.value, .value] [.bool] (fun x => F21 n x.1 x.2) (noFns))))))))

theorem GO8 (n : Nat) : CtxOK Try.prog lay0 (G8 n) := ent_ok TA10 (fun _ _ h => h) (ent_ok (T11 n) (fun _ _ h => h) (ent_ok (T13 n) (fun _ _ h => h) (ent_ok (T15 n) (fun _ _ h => h) (ent_ok (T17 n) (fun _ _ h => h) (ent_ok (T19 n) (fun _ _ h => h) (ent_ok (T20 n) (fun _ _ h => h) (ent_ok (T21 n) (fun _ _ h => h) (noFns_ok))))))))

noncomputable def P8 (n : Nat) : Pl (Res [.bool]) :=
  .leaf

theorem K8 (n : Nat) : PlOK (G8 n) noInl lay0 39 (P8 n) c8 (fnK lay0 [.tmp 4] [.val (.slice (.int .i64)), .val (.slice (.int .i64))] [.val .bool] [.bool]) :=
  trivial

theorem E8 (n : Nat) (a0 : List Int) (a1 : List Int) : F8 n a0 a1 = fnE [.val (.slice (.int .i64)), .val (.slice (.int .i64))] (argDs [.slice (.int .i64), .slice (.int .i64)] (a0, a1)) (fun st => ev (G8 n) noInl lay0 39 c8 (P8 n) st (fnK lay0 [.tmp 4] [.val (.slice (.int .i64)), .val (.slice (.int .i64))] [.val .bool] [.bool])) := by kernel_rfl

theorem T8 (n : Nat) : Told Try.prog 8 [.slice (.int .i64), .slice (.int .i64)] [.bool] (fun x => F8 n x.1 x.2) := by
  rintro ⟨a0, a1⟩ r h
  exact calls_plain (fn_sound lay0_ok mixed (rvs := [.tmp 4]) (by kernel_rfl : Try.prog.funcs[8]? = some Try.f8) (by kernel_rfl : Try.f8.body = some c8) (by kernel_rfl) (by kernel_rfl) (by kernel_rfl) (GO8 n) noInl_ok (K8 n) ((E8 n a0 a1).symm.trans h)) rfl rfl rfl rfl

end Go.Proofs.Ytdkelhdlfeendaa.Ab
