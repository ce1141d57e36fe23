/- Functions of the program as Lean functions. Printed by wip/gen/gen3.py. -/
import Derived.Test.YtaeamjhgfhcjdaaDoorGA
namespace Go.Proofs.YtaeamjhgfhcjdaaDoor.Ab
open Go Go.RowKit Go.Proofs
set_option maxRecDepth 100000
set_option maxHeartbeats 4000000
set_option linter.unusedVariables false

/-! ### orthoepy/orthoepylaw00.Place -/

def F31 (n : Nat) (a0 : Int) (a1 : Int) : Option (Int) :=
  (bif (!(a1 == 0)) then
  (bif (decide ((Int.tmod a0 a1) < 0)) then
    some (IntKind.wrap .i64 ((Int.tmod a0 a1) + a1))
  else
    some (Int.tmod a0 a1))
  else none)

noncomputable def c31 : Code := Tryd.f31.body.getD .skip

noncomputable def G31 (n : Nat) : Ctx (Res [.int .i64]) := noFns

theorem GO31 (n : Nat) : CtxOK Tryd.prog lay0 (G31 n) := noFns_ok

noncomputable def P31 (n : Nat) : Pl (Res [.int .i64]) :=
  .leaf

theorem K31 (n : Nat) : PlOK (G31 n) noInl lay0 15 (P31 n) c31 (fnK lay0 [.tmp 4] [.val (.int .i64), .val (.int .i64)] [.val (.int .i64)] [.int .i64]) :=
  trivial

theorem E31 (n : Nat) (a0 : Int) (a1 : Int) : F31 n a0 a1 = fnE [.val (.int .i64), .val (.int .i64)] (argDs [.int .i64, .int .i64] (a0, a1)) (fun st => ev (G31 n) noInl lay0 15 c31 (P31 n) st (fnK lay0 [.tmp 4] [.val (.int .i64), .val (.int .i64)] [.val (.int .i64)] [.int .i64])) := by kernel_rfl

theorem T31 (n : Nat) : Told Tryd.prog 31 [.int .i64, .int .i64] [.int .i64] (fun x => F31 n x.1 x.2) := by
  rintro ⟨a0, a1⟩ r h
  exact calls_plain (fn_sound lay0_ok mixed (rvs := [.tmp 4]) (by kernel_rfl : Tryd.prog.funcs[31]? = some Tryd.f31) (by kernel_rfl : Tryd.f31.body = some c31) (by kernel_rfl) (by kernel_rfl) (by kernel_rfl) (GO31 n) noInl_ok (K31 n) ((E31 n a0 a1).symm.trans h)) rfl rfl rfl rfl

/-! ### orthoepy/orthoepyref01.Is -/

def F79 (n : Nat) (a0 : Int) : Option (Bool) :=
  (bif (decide (a0 ≥ 0)) then
    (bif (decide (a0 < 55296)) then
      some true
    else
      (bif (decide (a0 > 57343)) then
        some (decide (a0 ≤ 1114111))
      else
        some false))
  else
    (bif (decide (a0 > 57343)) then
      some (decide (a0 ≤ 1114111))
    else
      some false))

noncomputable def c79 : Code := Tryd.f79.body.getD .skip

noncomputable def G79 (n : Nat) : Ctx (Res [.bool]) := noFns

theorem GO79 (n : Nat) : CtxOK Tryd.prog lay0 (G79 n) := noFns_ok

noncomputable def P79 (n : Nat) : Pl (Res [.bool]) :=
  .leaf

theorem K79 (n : Nat) : PlOK (G79 n) noInl lay0 17 (P79 n) c79 (fnK lay0 [.tmp 2] [.val (.int .i32)] [.val .bool] [.bool]) :=
  trivial

theorem E79 (n : Nat) (a0 : Int) : F79 n a0 = fnE [.val (.int .i32)] (argDs [.int .i32] (a0)) (fun st => ev (G79 n) noInl lay0 17 c79 (P79 n) st (fnK lay0 [.tmp 2] [.val (.int .i32)] [.val .bool] [.bool])) := by kernel_rfl

theorem T79 (n : Nat) : Told Tryd.prog 79 [.int .i32] [.bool] (fun x => F79 n x) := by
  rintro a0 r h
  exact calls_plain (fn_sound lay0_ok mixed (rvs := [.tmp 2]) (by kernel_rfl : Tryd.prog.funcs[79]? = some Tryd.f79) (by kernel_rfl : Tryd.f79.body = some c79) (by kernel_rfl) (by kernel_rfl) (by kernel_rfl) (GO79 n) noInl_ok (K79 n) ((E79 n a0).symm.trans h)) rfl rfl rfl rfl

/-! ### orthoepy/orthoepyref01.Nonchar -/

def F80 (n : Nat) (a0 : Int) : Option (Bool) :=
  (bif (decide (a0 ≥ 64976)) then
    (bif (decide (a0 ≤ 65007)) then
      some true
    else
      (match F79 n a0 with
      | some r1 =>
      (bif r1 then
        (bif (!(65536 == 0)) then
        some (decide ((Int.tmod a0 65536) ≥ 65534))
        else none)
      else
        some false)
      | none => none))
  else
    (match F79 n a0 with
    | some r2 =>
    (bif r2 then
      (bif (!(65536 == 0)) then
      some (decide ((Int.tmod a0 65536) ≥ 65534))
      else none)
    else
      some false)
    | none => none))

noncomputable def c80 : Code := Tryd.f80.body.getD .skip

noncomputable def G80 (n : Nat) : Ctx (Res [.bool]) := ent 79 [.int .i32] [.bool] (fun x => F79 n x) (noFns)

theorem GO80 (n : Nat) : CtxOK Tryd.prog lay0 (G80 n) := ent_ok (T79 n) (fun _ _ h => h) (noFns_ok)

noncomputable def P80 (n : Nat) : Pl (Res [.bool]) :=
  .leaf

theorem K80 (n : Nat) : PlOK (G80 n) noInl lay0 18 (P80 n) c80 (fnK lay0 [.tmp 2] [.val (.int .i32)] [.val .bool] [.bool]) :=
  trivial

theorem E80 (n : Nat) (a0 : Int) : F80 n a0 = fnE [.val (.int .i32)] (argDs [.int .i32] (a0)) (fun st => ev (G80 n) noInl lay0 18 c80 (P80 n) st (fnK lay0 [.tmp 2] [.val (.int .i32)] [.val .bool] [.bool])) := by kernel_rfl

theorem T80 (n : Nat) : Told Tryd.prog 80 [.int .i32] [.bool] (fun x => F80 n x) := by
  rintro a0 r h
  exact calls_plain (fn_sound lay0_ok mixed (rvs := [.tmp 2]) (by kernel_rfl : Tryd.prog.funcs[80]? = some Tryd.f80) (by kernel_rfl : Tryd.f80.body = some c80) (by kernel_rfl) (by kernel_rfl) (by kernel_rfl) (GO80 n) noInl_ok (K80 n) ((E80 n a0).symm.trans h)) rfl rfl rfl rfl

/-! ### orthoepy/orthoepyref02.Bytes -/

def F87 (n : Nat) (a0 : Int) : Option ((List Int)) :=
  (match F79 n a0 with
  | some r1 =>
  (bif (!r1) then
    some ([] : List Int)
  else
    (bif (decide (a0 < 128)) then
      some ([(IntKind.wrap .u8 (a0))] : List Int)
    else
      (bif (decide (a0 < 2048)) then
        (bif (!(64 == 0)) then
        (bif (!(64 == 0)) then
        some ([(IntKind.wrap .u8 ((IntKind.wrap .i32 (192 + (IntKind.wrap .i32 (Int.tdiv a0 64)))))), (IntKind.wrap .u8 ((IntKind.wrap .i32 (128 + (Int.tmod a0 64)))))] : List Int)
        else none)
        else none)
      else
        (bif (decide (a0 < 65536)) then
          (bif (!(4096 == 0)) then
          (bif (!(64 == 0)) then
          (bif (!(64 == 0)) then
          (bif (!(64 == 0)) then
          some ([(IntKind.wrap .u8 ((IntKind.wrap .i32 (224 + (IntKind.wrap .i32 (Int.tdiv a0 4096)))))), (IntKind.wrap .u8 ((IntKind.wrap .i32 (128 + (Int.tmod (IntKind.wrap .i32 (Int.tdiv a0 64)) 64))))), (IntKind.wrap .u8 ((IntKind.wrap .i32 (128 + (Int.tmod a0 64)))))] : List Int)
          else none)
          else none)
          else none)
          else none)
        else
          (bif (!(262144 == 0)) then
          (bif (!(4096 == 0)) then
          (bif (!(64 == 0)) then
          (bif (!(64 == 0)) then
          (bif (!(64 == 0)) then
          (bif (!(64 == 0)) then
          some ([(IntKind.wrap .u8 ((IntKind.wrap .i32 (240 + (IntKind.wrap .i32 (Int.tdiv a0 262144)))))), (IntKind.wrap .u8 ((IntKind.wrap .i32 (128 + (Int.tmod (IntKind.wrap .i32 (Int.tdiv a0 4096)) 64))))), (IntKind.wrap .u8 ((IntKind.wrap .i32 (128 + (Int.tmod (IntKind.wrap .i32 (Int.tdiv a0 64)) 64))))), (IntKind.wrap .u8 ((IntKind.wrap .i32 (128 + (Int.tmod a0 64)))))] : List Int)
          else none)
          else none)
          else none)
          else none)
          else none)
          else none)))))
  | none => none)

noncomputable def c87 : Code := Tryd.f87.body.getD .skip

noncomputable def G87 (n : Nat) : Ctx (Res [.slice (.int .u8)]) := ent 79 [.int .i32] [.bool] (fun x => F79 n x) (noFns)

theorem GO87 (n : Nat) : CtxOK Tryd.prog lay0 (G87 n) := ent_ok (T79 n) (fun _ _ h => h) (noFns_ok)

noncomputable def P87 (n : Nat) : Pl (Res [.slice (.int .u8)]) :=
  .leaf

theorem K87 (n : Nat) : PlOK (G87 n) noInl lay0 61 (P87 n) c87 (fnK lay0 [.tmp 2] [.val (.int .i32)] [.val (.slice (.int .u8))] [.slice (.int .u8)]) :=
  trivial

theorem E87 (n : Nat) (a0 : Int) : F87 n a0 = fnE [.val (.int .i32)] (argDs [.int .i32] (a0)) (fun st => ev (G87 n) noInl lay0 61 c87 (P87 n) st (fnK lay0 [.tmp 2] [.val (.int .i32)] [.val (.slice (.int .u8))] [.slice (.int .u8)])) := by kernel_rfl

theorem T87 (n : Nat) : Told Tryd.prog 87 [.int .i32] [.slice (.int .u8)] (fun x => F87 n x) := by
  rintro a0 r h
  exact calls_plain (fn_sound lay0_ok mixed (rvs := [.tmp 2]) (by kernel_rfl : Tryd.prog.funcs[87]? = some Tryd.f87) (by kernel_rfl : Tryd.f87.body = some c87) (by kernel_rfl) (by kernel_rfl) (by kernel_rfl) (GO87 n) noInl_ok (K87 n) ((E87 n a0).symm.trans h)) rfl rfl rfl rfl

/-! ### orthoepy/orthoepyref02.Text -/

def F81l0F (n : Nat) (rF81l0 : List Int → List Int → Int → Option ((List Int))) (t0 : List Int) (t3 : List Int) (t4 : Int) : Option ((List Int)) :=
  (bif (decide (t4 < ((t0).length : Int))) then
    (bif inB t4 (t0).length then
    (match F87 n ((t0).getD (Int.toNat t4) (Ty.dflt (.int .i32))) with
    | some r1 =>
    (bif (decide (((t3).length + (r1).length) * 1 ≤ maxRoom) && decide ((t3).length + (r1).length ≤ maxRoom)) then
    rF81l0 t0 (t3 ++ r1) (IntKind.wrap .i64 (t4 + 1))
    else none)
    | none => none)
    else none)
  else
    some t3)
def F81l0 (n : Nat) : Nat → List Int → List Int → Int → Option ((List Int))
  | 0, _, _, _ => none
  | m + 1, t0, t3, t4 => F81l0F n (F81l0 n m) t0 t3 t4

def F81 (n : Nat) (a0 : List Int) : Option ((List Int)) :=
  F81l0 n n a0 ([] : List Int) 0

noncomputable def c81 : Code := Tryd.f81.body.getD .skip

noncomputable def G81 (n : Nat) : Ctx (Res [.slice (.int .u8)]) := ent 87 [.int .i32] [.slice (.int .u8)] (fun x => F87 n x) (noFns)

theorem GO81 (n : Nat) : CtxOK Tryd.prog lay0 (G81 n) := ent_ok (T87 n) (fun _ _ h => h) (noFns_ok)

noncomputable def P81 (n : Nat) : Pl (Res [.slice (.int .u8)]) :=
  (.two .leaf (.two .leaf (.two (.two .leaf (.one (.loop [.val (.tmp 0) (.slice (.int .i32)), .vec (.tmp 3) 20000000 5 (.int .u8), .val (.tmp 4) (.int .i64)] n (fun m x => F81l0 n m x.1 x.2.1 x.2.2.1) (fun _ => .leaf)))) .leaf)))

theorem K81 (n : Nat) : PlOK (G81 n) noInl lay0 19 (P81 n) c81 (fnK lay0 [.tmp 2] [.val (.slice (.int .i32))] [.val (.slice (.int .u8))] [.slice (.int .u8)]) :=
  ⟨trivial, ⟨trivial, ⟨⟨trivial, ⟨by kernel_rfl, fun x => by kernel_rfl, fun m => ⟨fun x => by kernel_rfl, trivial⟩⟩⟩, trivial⟩⟩⟩

theorem E81 (n : Nat) (a0 : List Int) : F81 n a0 = fnE [.val (.slice (.int .i32))] (argDs [.slice (.int .i32)] (a0)) (fun st => ev (G81 n) noInl lay0 19 c81 (P81 n) st (fnK lay0 [.tmp 2] [.val (.slice (.int .i32))] [.val (.slice (.int .u8))] [.slice (.int .u8)])) := by kernel_rfl

theorem T81 (n : Nat) : Told Tryd.prog 81 [.slice (.int .i32)] [.slice (.int .u8)] (fun x => F81 n x) := by
  rintro a0 r h
  exact calls_plain (fn_sound lay0_ok mixed (rvs := [.tmp 2]) (by kernel_rfl : Tryd.prog.funcs[81]? = some Tryd.f81) (by kernel_rfl : Tryd.f81.body = some c81) (by kernel_rfl) (by kernel_rfl) (by kernel_rfl) (GO81 n) noInl_ok (K81 n) ((E81 n a0).symm.trans h)) rfl rfl rfl rfl

/-! ### orthoepy/orthoepylaw00.Rune -/

def F78j1 (n : Nat) (t3 : Int) (t4 : Int) (t12 : Int) (t25 : Bool) : Option (Int) :=
  (bif t25 then
    (bif (!(24 == 0)) then
    (bif ((inB (Int.tmod t4 24) 24 && true) && true) then
    some ((([768, 769, 770, 771, 772, 774, 775, 776, 778, 780, 803, 807, 808, 795, 837, 820, 2364, 12441, 12442, 1456, 1460, 824, 834, 2494] : List Int)).getD (Int.toNat (Int.tmod t4 24)) (Ty.dflt (.int .i32)))
    else none)
    else none)
  else
    (bif (t12 == 6) then
      (bif (!(448 == 0)) then
      some (IntKind.wrap .i32 (192 + (Int.tmod t4 448)))
      else none)
    else
      (bif (t12 == 7) then
        (bif (!(512 == 0)) then
        some (IntKind.wrap .i32 (7680 + (Int.tmod t4 512)))
        else none)
      else
        (bif (t12 == 8) then
          (bif (!(16 == 0)) then
          (bif ((inB (Int.tmod t4 16) 16 && true) && true) then
          some ((([8491, 8486, 8490, 832, 833, 836, 884, 894, 2392, 2399, 63744, 64109, 194560, 119134, 64300, 10972] : List Int)).getD (Int.toNat (Int.tmod t4 16)) (Ty.dflt (.int .i32)))
          else none)
          else none)
        else
          (bif (t12 == 9) then
            (bif (!(11172 == 0)) then
            some (IntKind.wrap .i32 (44032 + (Int.tmod t4 11172)))
            else none)
          else
            (bif (t12 == 10) then
              (bif (!(3 == 0)) then
              (bif ((inB (Int.tmod t4 3) 3 && true) && true) then
              (bif (!(3 == 0)) then
              (bif (!(30 == 0)) then
              some (IntKind.wrap .i32 (((([4352, 4449, 4519] : List Int)).getD (Int.toNat (Int.tmod t4 3)) (Ty.dflt (.int .i32))) + (Int.tmod (IntKind.wrap .i32 (Int.tdiv t4 3)) 30)))
              else none)
              else none)
              else none)
              else none)
            else
              (bif (t12 == 11) then
                (bif (!(8 == 0)) then
                (bif ((inB (Int.tmod t4 8) 8 && true) && true) then
                some ((([128512, 65536, 1114109, 57344, 64307, 65533, 55295, 8232] : List Int)).getD (Int.toNat (Int.tmod t4 8)) (Ty.dflt (.int .i32)))
                else none)
                else none)
              else
                (bif (t12 == 12) then
                  (bif (!(128 == 0)) then
                  some (Int.tmod t4 128)
                  else none)
                else
                  (bif (t12 == 13) then
                    (bif (!(1536 == 0)) then
                    some (IntKind.wrap .i32 (880 + (Int.tmod t4 1536)))
                    else none)
                  else
                    (bif (t12 == 14) then
                      (bif (!(192 == 0)) then
                      some (IntKind.wrap .i32 (12352 + (Int.tmod t4 192)))
                      else none)
                    else
                      (bif (!(16 == 0)) then
                      (bif (!(1114112 == 0)) then
                      some (IntKind.wrap .i32 ((Int.tmod (IntKind.wrap .i64 (Int.tdiv t3 16)) 1114112)))
                      else none)
                      else none)))))))))))

def F78j0 (n : Nat) (t3 : Int) (t4 : Int) (t12 : Int) (t13 : Bool) : Option (Int) :=
  (bif t13 then
    (bif (!(26 == 0)) then
    some (IntKind.wrap .i32 (97 + (Int.tmod t4 26)))
    else none)
  else
    (bif (t12 == 2) then
      (bif (!(12 == 0)) then
      (bif ((inB (Int.tmod t4 12) 12 && true) && true) then
      some ((([65, 69, 79, 97, 101, 111, 2325, 2344, 4352, 4370, 12363, 2503] : List Int)).getD (Int.toNat (Int.tmod t4 12)) (Ty.dflt (.int .i32)))
      else none)
      else none)
    else
      (bif (t12 == 3) then
        F78j1 n t3 t4 t12 (t12 == 3)
      else
        (bif (t12 == 4) then
          F78j1 n t3 t4 t12 (t12 == 4)
        else
          F78j1 n t3 t4 t12 (t12 == 5)))))

def F78 (n : Nat) (a0 : Int) : Option (Int) :=
  (match F31 n a0 1099511627776 with
  | some r1 =>
  (bif (!(16 == 0)) then
  (bif (!(100000 == 0)) then
  (bif (!(16 == 0)) then
  (bif ((Int.tmod r1 16) == 0) then
    F78j0 n r1 (IntKind.wrap .i32 ((Int.tmod (IntKind.wrap .i64 (Int.tdiv r1 16)) 100000))) (Int.tmod r1 16) ((Int.tmod r1 16) == 0)
  else
    F78j0 n r1 (IntKind.wrap .i32 ((Int.tmod (IntKind.wrap .i64 (Int.tdiv r1 16)) 100000))) (Int.tmod r1 16) ((Int.tmod r1 16) == 1))
  else none)
  else none)
  else none)
  | none => none)

noncomputable def c78 : Code := Tryd.f78.body.getD .skip

noncomputable def G78 (n : Nat) : Ctx (Res [.int .i32]) := ent 31 [.int .i64, .int .i64] [.int .i64] (fun x => F31 n x.1 x.2) (noFns)

theorem GO78 (n : Nat) : CtxOK Tryd.prog lay0 (G78 n) := ent_ok (T31 n) (fun _ _ h => h) (noFns_ok)

noncomputable def P78 (n : Nat) : Pl (Res [.int .i32]) :=
  (.two .leaf (.two .leaf (.two .leaf (.two (.two .leaf (.one (.join [.val (.tmp 3) (.int .i64), .val (.tmp 4) (.int .i32), .val (.tmp 12) (.int .i64), .val (.tmp 13) .bool] (fun x => F78j0 n x.1 x.2.1 x.2.2.1 x.2.2.2.1) .leaf (.two .leaf (.two .leaf (.two .leaf (.join [.val (.tmp 3) (.int .i64), .val (.tmp 4) (.int .i32), .val (.tmp 12) (.int .i64), .val (.tmp 25) .bool] (fun x => F78j1 n x.1 x.2.1 x.2.2.1 x.2.2.2.1) .leaf .leaf))))))) .leaf))))

theorem K78 (n : Nat) : PlOK (G78 n) noInl lay0 88 (P78 n) c78 (fnK lay0 [.tmp 2] [.val (.int .i64)] [.val (.int .i32)] [.int .i32]) :=
  ⟨trivial, ⟨trivial, ⟨trivial, ⟨⟨trivial, ⟨by kernel_rfl, fun x => by kernel_rfl, trivial, ⟨trivial, ⟨trivial, ⟨trivial, ⟨by kernel_rfl, fun x => by kernel_rfl, trivial, trivial⟩⟩⟩⟩⟩⟩, trivial⟩⟩⟩⟩

theorem E78 (n : Nat) (a0 : Int) : F78 n a0 = fnE [.val (.int .i64)] (argDs [.int .i64] (a0)) (fun st => ev (G78 n) noInl lay0 88 c78 (P78 n) st (fnK lay0 [.tmp 2] [.val (.int .i64)] [.val (.int .i32)] [.int .i32])) := by kernel_rfl

theorem T78 (n : Nat) : Told Tryd.prog 78 [.int .i64] [.int .i32] (fun x => F78 n x) := by
  rintro a0 r h
  exact calls_plain (fn_sound lay0_ok mixed (rvs := [.tmp 2]) (by kernel_rfl : Tryd.prog.funcs[78]? = some Tryd.f78) (by kernel_rfl : Tryd.f78.body = some c78) (by kernel_rfl) (by kernel_rfl) (by kernel_rfl) (GO78 n) noInl_ok (K78 n) ((E78 n a0).symm.trans h)) rfl rfl rfl rfl

/-! ### orthoepy/orthoepylaw00.from -/

def F65 (n : Nat) (a0 : List Int) (a1 : Int) (a2 : Int) : Option ((List Int)) :=
  (bif (decide (a1 ≥ ((a0).length : Int))) then
    some ([] : List Int)
  else
    (bif (cutB a1 (if ((a0).length : Int) < (IntKind.wrap .i64 (a1 + a2)) then ((a0).length : Int) else (IntKind.wrap .i64 (a1 + a2))) (a0).length && true) then
    some (((a0).drop (Int.toNat a1)).take (Int.toNat (if ((a0).length : Int) < (IntKind.wrap .i64 (a1 + a2)) then ((a0).length : Int) else (IntKind.wrap .i64 (a1 + a2))) - Int.toNat a1))
    else none))

noncomputable def c65 : Code := Tryd.f65.body.getD .skip

noncomputable def G65 (n : Nat) : Ctx (Res [.slice (.int .i64)]) := noFns

theorem GO65 (n : Nat) : CtxOK Tryd.prog lay0 (G65 n) := noFns_ok

noncomputable def P65 (n : Nat) : Pl (Res [.slice (.int .i64)]) :=
  .leaf

theorem K65 (n : Nat) : PlOK (G65 n) noInl lay0 20 (P65 n) c65 (fnK lay0 [.tmp 6] [.val (.slice (.int .i64)), .val (.int .i64), .val (.int .i64)] [.val (.slice (.int .i64))] [.slice (.int .i64)]) :=
  trivial

theorem E65 (n : Nat) (a0 : List Int) (a1 : Int) (a2 : Int) : F65 n a0 a1 a2 = fnE [.val (.slice (.int .i64)), .val (.int .i64), .val (.int .i64)] (argDs [.slice (.int .i64), .int .i64, .int .i64] (a0, a1, a2)) (fun st => ev (G65 n) noInl lay0 20 c65 (P65 n) st (fnK lay0 [.tmp 6] [.val (.slice (.int .i64)), .val (.int .i64), .val (.int .i64)] [.val (.slice (.int .i64))] [.slice (.int .i64)])) := by kernel_rfl

theorem T65 (n : Nat) : Told Tryd.prog 65 [.slice (.int .i64), .int .i64, .int .i64] [.slice (.int .i64)] (fun x => F65 n x.1 x.2.1 x.2.2) := by
  rintro ⟨a0, a1, a2⟩ r h
  exact calls_plain (fn_sound lay0_ok mixed (rvs := [.tmp 6]) (by kernel_rfl : Tryd.prog.funcs[65]? = some Tryd.f65) (by kernel_rfl : Tryd.f65.body = some c65) (by kernel_rfl) (by kernel_rfl) (by kernel_rfl) (GO65 n) noInl_ok (K65 n) ((E65 n a0 a1 a2).symm.trans h)) rfl rfl rfl rfl

/-! ### orthoepy/orthoepylaw00.Str -/

def F64l0F (n : Nat) (rF64l0 : List Int → List Int → Int → Option ((List UInt8))) (t0 : List Int) (t3 : List Int) (t4 : Int) : Option ((List UInt8)) :=
  (bif (decide (t4 < ((t0).length : Int))) then
    (bif (decide (t4 < 20)) then
      (bif inB t4 (t0).length then
      (match F78 n ((t0).getD (Int.toNat t4) (Ty.dflt (.int .i64))) with
      | some r1 =>
      (match F79 n r1 with
      | some r2 =>
      (bif r2 then
        (match F80 n r1 with
        | some r3 =>
        (bif (!r3) then
          (bif (decide (((t3).length + (([r1] : List Int)).length) * 4 ≤ maxRoom) && decide ((t3).length + (([r1] : List Int)).length ≤ maxRoom)) then
          rF64l0 t0 (t3 ++ ([r1] : List Int)) (IntKind.wrap .i64 (t4 + 1))
          else none)
        else
          rF64l0 t0 t3 (IntKind.wrap .i64 (t4 + 1)))
        | none => none)
      else
        rF64l0 t0 t3 (IntKind.wrap .i64 (t4 + 1)))
      | none => none)
      | none => none)
      else none)
    else
      (match F81 n t3 with
      | some r4 =>
      some (strOf r4)
      | none => none))
  else
    (match F81 n t3 with
    | some r5 =>
    some (strOf r5)
    | none => none))
def F64l0 (n : Nat) : Nat → List Int → List Int → Int → Option ((List UInt8))
  | 0, _, _, _ => none
  | m + 1, t0, t3, t4 => F64l0F n (F64l0 n m) t0 t3 t4

def F64 (n : Nat) (a0 : List Int) : Option ((List UInt8)) :=
  F64l0 n n a0 ([] : List Int) 0

noncomputable def c64 : Code := Tryd.f64.body.getD .skip

noncomputable def G64 (n : Nat) : Ctx (Res [.str]) := ent 78 [.int .i64] [.int .i32] (fun x => F78 n x) (ent 79 [.int .i32] [.bool] (fun x => F79 n x) (ent 80 [.int .i32] [.bool] (fun x => F80 n x) (ent 81 [.slice (.int .i32)] [.slice (.int .u8)] (fun x => F81 n x) (noFns))))

theorem GO64 (n : Nat) : CtxOK Tryd.prog lay0 (G64 n) := ent_ok (T78 n) (fun _ _ h => h) (ent_ok (T79 n) (fun _ _ h => h) (ent_ok (T80 n) (fun _ _ h => h) (ent_ok (T81 n) (fun _ _ h => h) (noFns_ok))))

noncomputable def P64 (n : Nat) : Pl (Res [.str]) :=
  (.two .leaf (.two .leaf (.two (.two .leaf (.one (.loop [.val (.tmp 0) (.slice (.int .i64)), .vec (.tmp 3) 20000000 21 (.int .i32), .val (.tmp 4) (.int .i64)] n (fun m x => F64l0 n m x.1 x.2.1 x.2.2.1) (fun _ => .leaf)))) .leaf)))

theorem K64 (n : Nat) : PlOK (G64 n) noInl lay0 35 (P64 n) c64 (fnK lay0 [.tmp 2] [.val (.slice (.int .i64))] [.val .str] [.str]) :=
  ⟨trivial, ⟨trivial, ⟨⟨trivial, ⟨by kernel_rfl, fun x => by kernel_rfl, fun m => ⟨fun x => by kernel_rfl, trivial⟩⟩⟩, trivial⟩⟩⟩

theorem E64 (n : Nat) (a0 : List Int) : F64 n a0 = fnE [.val (.slice (.int .i64))] (argDs [.slice (.int .i64)] (a0)) (fun st => ev (G64 n) noInl lay0 35 c64 (P64 n) st (fnK lay0 [.tmp 2] [.val (.slice (.int .i64))] [.val .str] [.str])) := by kernel_rfl

theorem T64 (n : Nat) : Told Tryd.prog 64 [.slice (.int .i64)] [.str] (fun x => F64 n x) := by
  rintro a0 r h
  exact calls_plain (fn_sound lay0_ok mixed (rvs := [.tmp 2]) (by kernel_rfl : Tryd.prog.funcs[64]? = some Tryd.f64) (by kernel_rfl : Tryd.f64.body = some c64) (by kernel_rfl) (by kernel_rfl) (by kernel_rfl) (GO64 n) noInl_ok (K64 n) ((E64 n a0).symm.trans h)) rfl rfl rfl rfl

/-! ### orthoepy/orthoepylaw00.value -/

def F51l4F (self : List Int → Int → Int → Option (V × Int)) (n : Nat) (rF51l4 : List Int → Int → Int → Int → Int → Int → Int → Bool → Int → List UInt8 → List (List UInt8) → List V → Int → Bool → Int → List UInt8 → List (List UInt8) → List V → Option (V × Int)) (t0 : List Int) (t1 : Int) (t2 : Int) (t8 : Int) (t10 : Int) (t13 : Int) (b6_0 : Int) (b6_1 : Bool) (b6_2 : Int) (b6_3 : List UInt8) (b6_4 : List (List UInt8)) (b6_5 : List V) (b12_0 : Int) (b12_1 : Bool) (b12_2 : Int) (b12_3 : List UInt8) (b12_4 : List (List UInt8)) (b12_5 : List V) : Option (V × Int) :=
  (bif (decide (t13 < t10)) then
    (match self t0 t1 (IntKind.wrap .i64 (t2 - 1)) with
    | some r4 =>
    (bif (b12_0 == 6) then
      (bif (!(40 == 0)) then
      (bif (!(26 == 0)) then
      (bif (!(1040 == 0)) then
      (bif (!(3 == 0)) then
      (match F65 n t0 t1 (IntKind.wrap .i64 (1 + (Int.tmod (IntKind.wrap .i64 (Int.tdiv t8 1040)) 3))) with
      | some r5 =>
      (match F64 n r5 with
      | some r6 =>
      (bif decide ((strOf ([(IntKind.wrap .u8 ((IntKind.wrap .i64 (97 + (Int.tmod (IntKind.wrap .i64 ((IntKind.wrap .i64 (t13 * 7)) + (IntKind.wrap .i64 (Int.tdiv t8 40)))) 26)))))] : List Int)).length + r6.length ≤ 9223372036854775807) then
      (bif (decide (((b12_4).length + (([((strOf ([(IntKind.wrap .u8 ((IntKind.wrap .i64 (97 + (Int.tmod (IntKind.wrap .i64 ((IntKind.wrap .i64 (t13 * 7)) + (IntKind.wrap .i64 (Int.tdiv t8 40)))) 26)))))] : List Int)) ++ r6)] : List (List UInt8))).length) * 16 ≤ maxRoom) && decide ((b12_4).length + (([((strOf ([(IntKind.wrap .u8 ((IntKind.wrap .i64 (97 + (Int.tmod (IntKind.wrap .i64 ((IntKind.wrap .i64 (t13 * 7)) + (IntKind.wrap .i64 (Int.tdiv t8 40)))) 26)))))] : List Int)) ++ r6)] : List (List UInt8))).length ≤ maxRoom)) then
      (bif (decide (((b12_5).length + (([(V.mk r4.1.kind r4.1.b r4.1.n r4.1.s r4.1.names r4.1.kids)] : List V)).length) * 88 ≤ maxRoom) && decide ((b12_5).length + (([(V.mk r4.1.kind r4.1.b r4.1.n r4.1.s r4.1.names r4.1.kids)] : List V)).length ≤ maxRoom)) then
      rF51l4 t0 r4.2 t2 t8 t10 (IntKind.wrap .i64 (t13 + 1)) b6_0 b6_1 b6_2 b6_3 b6_4 b6_5 b12_0 b12_1 b12_2 b12_3 (b12_4 ++ ([((strOf ([(IntKind.wrap .u8 ((IntKind.wrap .i64 (97 + (Int.tmod (IntKind.wrap .i64 ((IntKind.wrap .i64 (t13 * 7)) + (IntKind.wrap .i64 (Int.tdiv t8 40)))) 26)))))] : List Int)) ++ r6)] : List (List UInt8))) (b12_5 ++ ([(V.mk r4.1.kind r4.1.b r4.1.n r4.1.s r4.1.names r4.1.kids)] : List V))
      else none)
      else none)
      else none)
      | none => none)
      | none => none)
      else none)
      else none)
      else none)
      else none)
    else
      (bif (decide (((b12_5).length + (([(V.mk r4.1.kind r4.1.b r4.1.n r4.1.s r4.1.names r4.1.kids)] : List V)).length) * 88 ≤ maxRoom) && decide ((b12_5).length + (([(V.mk r4.1.kind r4.1.b r4.1.n r4.1.s r4.1.names r4.1.kids)] : List V)).length ≤ maxRoom)) then
      rF51l4 t0 r4.2 t2 t8 t10 (IntKind.wrap .i64 (t13 + 1)) b6_0 b6_1 b6_2 b6_3 b6_4 b6_5 b12_0 b12_1 b12_2 b12_3 b12_4 (b12_5 ++ ([(V.mk r4.1.kind r4.1.b r4.1.n r4.1.s r4.1.names r4.1.kids)] : List V))
      else none))
    | none => none)
  else
    some ((V.mk b12_0 b12_1 b12_2 b12_3 b12_4 b12_5), t1))
def F51l4 (self : List Int → Int → Int → Option (V × Int)) (n : Nat) : Nat → List Int → Int → Int → Int → Int → Int → Int → Bool → Int → List UInt8 → List (List UInt8) → List V → Int → Bool → Int → List UInt8 → List (List UInt8) → List V → Option (V × Int)
  | 0, _, _, _, _, _, _, _, _, _, _, _, _, _, _, _, _, _, _ => none
  | m + 1, t0, t1, t2, t8, t10, t13, b6_0, b6_1, b6_2, b6_3, b6_4, b6_5, b12_0, b12_1, b12_2, b12_3, b12_4, b12_5 => F51l4F self n (F51l4 self n m) t0 t1 t2 t8 t10 t13 b6_0 b6_1 b6_2 b6_3 b6_4 b6_5 b12_0 b12_1 b12_2 b12_3 b12_4 b12_5

def F51j3 (self : List Int → Int → Int → Option (V × Int)) (n : Nat) (t0 : List Int) (t1 : Int) (t2 : Int) (t8 : Int) (t10 : Int) (b6_0 : Int) (b6_1 : Bool) (b6_2 : Int) (b6_3 : List UInt8) (b6_4 : List (List UInt8)) (b6_5 : List V) (b12_0 : Int) (b12_1 : Bool) (b12_2 : Int) (b12_3 : List UInt8) (b12_4 : List (List UInt8)) (b12_5 : List V) : Option (V × Int) :=
  F51l4 self n n t0 t1 t2 t8 t10 0 b6_0 b6_1 b6_2 b6_3 b6_4 b6_5 b12_0 b12_1 b12_2 b12_3 b12_4 b12_5

def F51j2 (self : List Int → Int → Int → Option (V × Int)) (n : Nat) (t0 : List Int) (t1 : Int) (t2 : Int) (t8 : Int) (t9 : Int) (t10 : Int) (b6_0 : Int) (b6_1 : Bool) (b6_2 : Int) (b6_3 : List UInt8) (b6_4 : List (List UInt8)) (b6_5 : List V) : Option (V × Int) :=
  (bif (decide (t9 ≥ 6)) then
    F51j3 self n t0 t1 t2 t8 t10 b6_0 b6_1 b6_2 b6_3 b6_4 b6_5 6 false 0 ([] : List UInt8) ([] : List (List UInt8)) ([] : List V)
  else
    F51j3 self n t0 t1 t2 t8 t10 b6_0 b6_1 b6_2 b6_3 b6_4 b6_5 5 false 0 ([] : List UInt8) ([] : List (List UInt8)) ([] : List V))

def F51j5 (self : List Int → Int → Int → Option (V × Int)) (n : Nat) (t0 : List Int) (t1 : Int) (t2 : Int) (t8 : Int) (t9 : Int) (t10 : Int) (t46 : Int) (t59 : Bool) (b6_0 : Int) (b6_1 : Bool) (b6_2 : Int) (b6_3 : List UInt8) (b6_4 : List (List UInt8)) (b6_5 : List V) : Option (V × Int) :=
  (bif t59 then
    (bif (!(64 == 0)) then
    (bif (!(100000 == 0)) then
    (bif (!(64 == 0)) then
    (bif (!(1000 == 0)) then
    (bif (!(64 == 0)) then
    (bif (!(3 == 0)) then
    (bif (!(64 == 0)) then
    (bif (!(10 == 0)) then
    (bif (!(8 == 0)) then
    (bif (!(8 == 0)) then
    (bif ((inB (Int.tmod (IntKind.wrap .i64 (Int.tdiv t8 8)) 8) 8 && true) && true) then
    some ((V.mk 3 false ((([0, 1, (-1), 7, (Int.tmod (IntKind.wrap .i64 (Int.tdiv t8 64)) 100000), (IntKind.wrap .i64 (0 - (Int.tmod (IntKind.wrap .i64 (Int.tdiv t8 64)) 1000))), (IntKind.wrap .i64 (9007199254740991 - (Int.tmod (IntKind.wrap .i64 (Int.tdiv t8 64)) 3))), (IntKind.wrap .i64 ((Int.tmod (IntKind.wrap .i64 (Int.tdiv t8 64)) 10) * 100000))] : List Int)).getD (Int.toNat (Int.tmod (IntKind.wrap .i64 (Int.tdiv t8 8)) 8)) (Ty.dflt (.int .i64))) ([] : List UInt8) ([] : List (List UInt8)) ([] : List V)), t1)
    else none)
    else none)
    else none)
    else none)
    else none)
    else none)
    else none)
    else none)
    else none)
    else none)
    else none)
  else
    (bif (t46 == 4) then
      (match F65 n t0 t1 t10 with
      | some r2 =>
      (match F64 n r2 with
      | some r3 =>
      some ((V.mk 4 false 0 r3 ([] : List (List UInt8)) ([] : List V)), (IntKind.wrap .i64 (t1 + t10)))
      | none => none)
      | none => none)
    else
      F51j2 self n t0 t1 t2 t8 t9 t10 b6_0 b6_1 b6_2 b6_3 b6_4 b6_5))

def F51j1 (self : List Int → Int → Int → Option (V × Int)) (n : Nat) (t0 : List Int) (t1 : Int) (t2 : Int) (t8 : Int) (t9 : Int) (b6_0 : Int) (b6_1 : Bool) (b6_2 : Int) (b6_3 : List UInt8) (b6_4 : List (List UInt8)) (b6_5 : List V) : Option (V × Int) :=
  (bif (!(8 == 0)) then
  (bif (!(5 == 0)) then
  (bif (t9 == 0) then
    some ((V.mk 1 false 0 ([] : List UInt8) ([] : List (List UInt8)) ([] : List V)), t1)
  else
    (bif (t9 == 1) then
      (bif (!(8 == 0)) then
      (bif (!(2 == 0)) then
      some ((V.mk 2 ((Int.tmod (IntKind.wrap .i64 (Int.tdiv t8 8)) 2) == 0) 0 ([] : List UInt8) ([] : List (List UInt8)) ([] : List V)), t1)
      else none)
      else none)
    else
      (bif (t9 == 2) then
        F51j5 self n t0 t1 t2 t8 t9 (Int.tmod (IntKind.wrap .i64 (Int.tdiv t8 8)) 5) t9 (t9 == 2) b6_0 b6_1 b6_2 b6_3 b6_4 b6_5
      else
        F51j5 self n t0 t1 t2 t8 t9 (Int.tmod (IntKind.wrap .i64 (Int.tdiv t8 8)) 5) t9 (t9 == 3) b6_0 b6_1 b6_2 b6_3 b6_4 b6_5)))
  else none)
  else none)

def F51j0 (self : List Int → Int → Int → Option (V × Int)) (n : Nat) (t0 : List Int) (t1 : Int) (t2 : Int) (t8 : Int) (b6_0 : Int) (b6_1 : Bool) (b6_2 : Int) (b6_3 : List UInt8) (b6_4 : List (List UInt8)) (b6_5 : List V) : Option (V × Int) :=
  (bif (!(8 == 0)) then
  (bif (t2 == 0) then
    (bif (decide ((Int.tmod t8 8) ≥ 5)) then
      (bif (!(5 == 0)) then
      F51j1 self n t0 (IntKind.wrap .i64 (t1 + 1)) t2 t8 (Int.tmod (Int.tmod t8 8) 5) b6_0 b6_1 b6_2 b6_3 b6_4 b6_5
      else none)
    else
      (bif (decide ((IntKind.wrap .i64 (t1 + 1)) > ((t0).length : Int))) then
        (bif (!(5 == 0)) then
        F51j1 self n t0 (IntKind.wrap .i64 (t1 + 1)) t2 t8 (Int.tmod (Int.tmod t8 8) 5) b6_0 b6_1 b6_2 b6_3 b6_4 b6_5
        else none)
      else
        F51j1 self n t0 (IntKind.wrap .i64 (t1 + 1)) t2 t8 (Int.tmod t8 8) b6_0 b6_1 b6_2 b6_3 b6_4 b6_5))
  else
    (bif (decide ((IntKind.wrap .i64 (t1 + 1)) > ((t0).length : Int))) then
      (bif (!(5 == 0)) then
      F51j1 self n t0 (IntKind.wrap .i64 (t1 + 1)) t2 t8 (Int.tmod (Int.tmod t8 8) 5) b6_0 b6_1 b6_2 b6_3 b6_4 b6_5
      else none)
    else
      F51j1 self n t0 (IntKind.wrap .i64 (t1 + 1)) t2 t8 (Int.tmod t8 8) b6_0 b6_1 b6_2 b6_3 b6_4 b6_5))
  else none)

def F51B (self : List Int → Int → Int → Option (V × Int)) (n : Nat) (a0 : List Int) (a1 : Int) (a2 : Int) : Option (V × Int) :=
  (bif (decide (a1 < ((a0).length : Int))) then
    (bif inB a1 (a0).length then
    (match F31 n ((a0).getD (Int.toNat a1) (Ty.dflt (.int .i64))) 1099511627776 with
    | some r1 =>
    F51j0 self n a0 a1 a2 r1 0 false 0 ([] : List UInt8) ([] : List (List UInt8)) ([] : List V)
    | none => none)
    else none)
  else
    F51j0 self n a0 a1 a2 0 0 false 0 ([] : List UInt8) ([] : List (List UInt8)) ([] : List V))

def F51 : Nat → List Int → Int → Int → Option (V × Int)
  | 0, _, _, _ => none
  | n + 1, a0, a1, a2 => F51B (F51 n) n a0 a1 a2

noncomputable def c51 : Code := Tryd.f51.body.getD .skip

noncomputable def G51 (self : List Int → Int → Int → Option (V × Int)) (n : Nat) : Ctx (Res [.value, .int .i64]) := ent 31 [.int .i64, .int .i64] [.int .i64] (fun x => F31 n x.1 x.2) (ent 51 [.slice (.int .i64), .int .i64, .int .i64] [.value, .int .i64] (fun x => self x.1 x.2.1 x.2.2) (ent 64 [.slice (.int .i64)] [.str] (fun x => F64 n x) (ent 65 [.slice (.int .i64), .int .i64, .int .i64] [.slice (.int .i64)] (fun x => F65 n x.1 x.2.1 x.2.2) (noFns))))

theorem GO51 (self : List Int → Int → Int → Option (V × Int)) (hs : Told Tryd.prog 51 [.slice (.int .i64), .int .i64, .int .i64] [.value, .int .i64] (fun x => self x.1 x.2.1 x.2.2)) (n : Nat) : CtxOK Tryd.prog lay0 (G51 self n) := ent_ok (T31 n) (fun _ _ h => h) (ent_ok hs (fun _ _ h => h) (ent_ok (T64 n) (fun _ _ h => h) (ent_ok (T65 n) (fun _ _ h => h) (noFns_ok))))

noncomputable def P51 (self : List Int → Int → Int → Option (V × Int)) (n : Nat) : Pl (Res [.value, .int .i64]) :=
  (.two .leaf (.two .leaf (.join [.val (.tmp 0) (.slice (.int .i64)), .val (.tmp 1) (.int .i64), .val (.tmp 2) (.int .i64), .ptr (.tmp 6) 6 0, .val (.tmp 8) (.int .i64), .val (.cell 6 0) (.int .i64), .val (.cell 6 1) .bool, .val (.cell 6 2) (.int .i64), .val (.cell 6 3) .str, .vec (.cell 6 4) 20000000 9 .str, .vec (.cell 6 5) 20000001 44 .value, .box 6 6] (fun x => F51j0 self n x.1 x.2.1 x.2.2.1 x.2.2.2.2.1 x.2.2.2.2.2.1 x.2.2.2.2.2.2.1 x.2.2.2.2.2.2.2.1 x.2.2.2.2.2.2.2.2.1 x.2.2.2.2.2.2.2.2.2.1 x.2.2.2.2.2.2.2.2.2.2.1) .leaf (.two .leaf (.two .leaf (.join [.val (.tmp 0) (.slice (.int .i64)), .val (.tmp 1) (.int .i64), .val (.tmp 2) (.int .i64), .ptr (.tmp 6) 6 0, .val (.tmp 8) (.int .i64), .val (.tmp 9) (.int .i64), .val (.cell 6 0) (.int .i64), .val (.cell 6 1) .bool, .val (.cell 6 2) (.int .i64), .val (.cell 6 3) .str, .vec (.cell 6 4) 20000000 9 .str, .vec (.cell 6 5) 20000001 44 .value, .box 6 6] (fun x => F51j1 self n x.1 x.2.1 x.2.2.1 x.2.2.2.2.1 x.2.2.2.2.2.1 x.2.2.2.2.2.2.1 x.2.2.2.2.2.2.2.1 x.2.2.2.2.2.2.2.2.1 x.2.2.2.2.2.2.2.2.2.1 x.2.2.2.2.2.2.2.2.2.2.1 x.2.2.2.2.2.2.2.2.2.2.2.1) .leaf (.two .leaf (.join [.val (.tmp 0) (.slice (.int .i64)), .val (.tmp 1) (.int .i64), .val (.tmp 2) (.int .i64), .ptr (.tmp 6) 6 0, .val (.tmp 8) (.int .i64), .val (.tmp 9) (.int .i64), .val (.tmp 10) (.int .i64), .val (.cell 6 0) (.int .i64), .val (.cell 6 1) .bool, .val (.cell 6 2) (.int .i64), .val (.cell 6 3) .str, .vec (.cell 6 4) 20000000 9 .str, .vec (.cell 6 5) 20000001 44 .value, .box 6 6] (fun x => F51j2 self n x.1 x.2.1 x.2.2.1 x.2.2.2.2.1 x.2.2.2.2.2.1 x.2.2.2.2.2.2.1 x.2.2.2.2.2.2.2.1 x.2.2.2.2.2.2.2.2.1 x.2.2.2.2.2.2.2.2.2.1 x.2.2.2.2.2.2.2.2.2.2.1 x.2.2.2.2.2.2.2.2.2.2.2.1 x.2.2.2.2.2.2.2.2.2.2.2.2.1) (.two .leaf (.one (.two .leaf (.two .leaf (.two .leaf (.two .leaf (.join [.val (.tmp 0) (.slice (.int .i64)), .val (.tmp 1) (.int .i64), .val (.tmp 2) (.int .i64), .ptr (.tmp 6) 6 0, .val (.tmp 8) (.int .i64), .val (.tmp 9) (.int .i64), .val (.tmp 10) (.int .i64), .val (.tmp 46) (.int .i64), .val (.tmp 59) .bool, .val (.cell 6 0) (.int .i64), .val (.cell 6 1) .bool, .val (.cell 6 2) (.int .i64), .val (.cell 6 3) .str, .vec (.cell 6 4) 20000000 9 .str, .vec (.cell 6 5) 20000001 44 .value, .box 6 6] (fun x => F51j5 self n x.1 x.2.1 x.2.2.1 x.2.2.2.2.1 x.2.2.2.2.2.1 x.2.2.2.2.2.2.1 x.2.2.2.2.2.2.2.1 x.2.2.2.2.2.2.2.2.1 x.2.2.2.2.2.2.2.2.2.1 x.2.2.2.2.2.2.2.2.2.2.1 x.2.2.2.2.2.2.2.2.2.2.2.1 x.2.2.2.2.2.2.2.2.2.2.2.2.1 x.2.2.2.2.2.2.2.2.2.2.2.2.2.1 x.2.2.2.2.2.2.2.2.2.2.2.2.2.2.1) .leaf .leaf))))))) (.two .leaf (.join [.val (.tmp 0) (.slice (.int .i64)), .val (.tmp 1) (.int .i64), .val (.tmp 2) (.int .i64), .ptr (.tmp 6) 6 0, .val (.tmp 8) (.int .i64), .val (.tmp 10) (.int .i64), .ptr (.tmp 12) 12 0, .val (.cell 6 0) (.int .i64), .val (.cell 6 1) .bool, .val (.cell 6 2) (.int .i64), .val (.cell 6 3) .str, .vec (.cell 6 4) 20000000 9 .str, .vec (.cell 6 5) 20000001 44 .value, .val (.cell 12 0) (.int .i64), .val (.cell 12 1) .bool, .val (.cell 12 2) (.int .i64), .val (.cell 12 3) .str, .vec (.cell 12 4) 20000002 9 .str, .vec (.cell 12 5) 20000003 44 .value, .box 6 6, .box 12 6] (fun x => F51j3 self n x.1 x.2.1 x.2.2.1 x.2.2.2.2.1 x.2.2.2.2.2.1 x.2.2.2.2.2.2.2.1 x.2.2.2.2.2.2.2.2.1 x.2.2.2.2.2.2.2.2.2.1 x.2.2.2.2.2.2.2.2.2.2.1 x.2.2.2.2.2.2.2.2.2.2.2.1 x.2.2.2.2.2.2.2.2.2.2.2.2.1 x.2.2.2.2.2.2.2.2.2.2.2.2.2.1 x.2.2.2.2.2.2.2.2.2.2.2.2.2.2.1 x.2.2.2.2.2.2.2.2.2.2.2.2.2.2.2.1 x.2.2.2.2.2.2.2.2.2.2.2.2.2.2.2.2.1 x.2.2.2.2.2.2.2.2.2.2.2.2.2.2.2.2.2.1 x.2.2.2.2.2.2.2.2.2.2.2.2.2.2.2.2.2.2.1) .leaf (.two (.two .leaf (.one (.loop [.val (.tmp 0) (.slice (.int .i64)), .val (.tmp 1) (.int .i64), .val (.tmp 2) (.int .i64), .ptr (.tmp 6) 6 0, .val (.tmp 8) (.int .i64), .val (.tmp 10) (.int .i64), .ptr (.tmp 12) 12 0, .val (.tmp 13) (.int .i64), .val (.cell 6 0) (.int .i64), .val (.cell 6 1) .bool, .val (.cell 6 2) (.int .i64), .val (.cell 6 3) .str, .vec (.cell 6 4) 20000000 9 .str, .vec (.cell 6 5) 20000001 44 .value, .val (.cell 12 0) (.int .i64), .val (.cell 12 1) .bool, .val (.cell 12 2) (.int .i64), .val (.cell 12 3) .str, .vec (.cell 12 4) 20000002 9 .str, .vec (.cell 12 5) 20000003 44 .value, .box 6 6, .box 12 6] n (fun m x => F51l4 self n m x.1 x.2.1 x.2.2.1 x.2.2.2.2.1 x.2.2.2.2.2.1 x.2.2.2.2.2.2.2.1 x.2.2.2.2.2.2.2.2.1 x.2.2.2.2.2.2.2.2.2.1 x.2.2.2.2.2.2.2.2.2.2.1 x.2.2.2.2.2.2.2.2.2.2.2.1 x.2.2.2.2.2.2.2.2.2.2.2.2.1 x.2.2.2.2.2.2.2.2.2.2.2.2.2.1 x.2.2.2.2.2.2.2.2.2.2.2.2.2.2.1 x.2.2.2.2.2.2.2.2.2.2.2.2.2.2.2.1 x.2.2.2.2.2.2.2.2.2.2.2.2.2.2.2.2.1 x.2.2.2.2.2.2.2.2.2.2.2.2.2.2.2.2.2.1 x.2.2.2.2.2.2.2.2.2.2.2.2.2.2.2.2.2.2.1 x.2.2.2.2.2.2.2.2.2.2.2.2.2.2.2.2.2.2.2.1) (fun _ => .leaf)))) .leaf)))))))))))

theorem K51 (self : List Int → Int → Int → Option (V × Int)) (n : Nat) : PlOK (G51 self n) noInl lay0 149 (P51 self n) c51 (fnK lay0 [.cell 6 44, .tmp 7] [.val (.slice (.int .i64)), .val (.int .i64), .val (.int .i64)] [.val .value, .val (.int .i64)] [.value, .int .i64]) :=
  ⟨trivial, ⟨trivial, ⟨by kernel_rfl, fun x => by kernel_rfl, trivial, ⟨trivial, ⟨trivial, ⟨by kernel_rfl, fun x => by kernel_rfl, trivial, ⟨trivial, ⟨by kernel_rfl, fun x => by kernel_rfl, ⟨trivial, ⟨trivial, ⟨trivial, ⟨trivial, ⟨trivial, ⟨by kernel_rfl, fun x => by kernel_rfl, trivial, trivial⟩⟩⟩⟩⟩⟩, ⟨trivial, ⟨by kernel_rfl, fun x => by kernel_rfl, trivial, ⟨⟨trivial, ⟨by kernel_rfl, fun x => by kernel_rfl, fun m => ⟨fun x => by kernel_rfl, trivial⟩⟩⟩, trivial⟩⟩⟩⟩⟩⟩⟩⟩⟩⟩⟩

theorem E51 (self : List Int → Int → Int → Option (V × Int)) (n : Nat) (a0 : List Int) (a1 : Int) (a2 : Int) : F51B self n a0 a1 a2 = fnE [.val (.slice (.int .i64)), .val (.int .i64), .val (.int .i64)] (argDs [.slice (.int .i64), .int .i64, .int .i64] (a0, a1, a2)) (fun st => ev (G51 self n) noInl lay0 149 c51 (P51 self n) st (fnK lay0 [.cell 6 44, .tmp 7] [.val (.slice (.int .i64)), .val (.int .i64), .val (.int .i64)] [.val .value, .val (.int .i64)] [.value, .int .i64])) := by kernel_rfl

theorem TB51 (self : List Int → Int → Int → Option (V × Int)) (hs : Told Tryd.prog 51 [.slice (.int .i64), .int .i64, .int .i64] [.value, .int .i64] (fun x => self x.1 x.2.1 x.2.2)) (n : Nat) : Told Tryd.prog 51 [.slice (.int .i64), .int .i64, .int .i64] [.value, .int .i64] (fun x => F51B self n x.1 x.2.1 x.2.2) := by
  rintro ⟨a0, a1, a2⟩ r h
  exact calls_plain (fn_sound lay0_ok mixed (rvs := [.cell 6 44, .tmp 7]) (by kernel_rfl : Tryd.prog.funcs[51]? = some Tryd.f51) (by kernel_rfl : Tryd.f51.body = some c51) (by kernel_rfl) (by kernel_rfl) (by kernel_rfl) (GO51 self hs n) noInl_ok (K51 self n) ((E51 self n a0 a1 a2).symm.trans h)) rfl rfl rfl rfl

theorem T51 : ∀ n : Nat, Told Tryd.prog 51 [.slice (.int .i64), .int .i64, .int .i64] [.value, .int .i64] (fun x => F51 n x.1 x.2.1 x.2.2)
  | 0 => fun _ _ h => by cases h
  | n + 1 => TB51 (F51 n) (T51 n) n

/-! ### orthoepy/orthoepylaw00.Value -/

def F30 (n : Nat) (a0 : List Int) : Option (V) :=
  (match F51 n a0 0 4 with
  | some r1 =>
  some (V.mk r1.1.kind r1.1.b r1.1.n r1.1.s r1.1.names r1.1.kids)
  | none => none)

noncomputable def c30 : Code := Tryd.f30.body.getD .skip

noncomputable def G30 (n : Nat) : Ctx (Res [.value]) := ent 51 [.slice (.int .i64), .int .i64, .int .i64] [.value, .int .i64] (fun x => F51 n x.1 x.2.1 x.2.2) (noFns)

theorem GO30 (n : Nat) : CtxOK Tryd.prog lay0 (G30 n) := ent_ok (T51 n) (fun _ _ h => h) (noFns_ok)

noncomputable def P30 (n : Nat) : Pl (Res [.value]) :=
  .leaf

theorem K30 (n : Nat) : PlOK (G30 n) noInl lay0 11 (P30 n) c30 (fnK lay0 [.cell 2 44] [.val (.slice (.int .i64))] [.val .value] [.value]) :=
  trivial

theorem E30 (n : Nat) (a0 : List Int) : F30 n a0 = fnE [.val (.slice (.int .i64))] (argDs [.slice (.int .i64)] (a0)) (fun st => ev (G30 n) noInl lay0 11 c30 (P30 n) st (fnK lay0 [.cell 2 44] [.val (.slice (.int .i64))] [.val .value] [.value])) := by kernel_rfl

theorem T30 (n : Nat) : Told Tryd.prog 30 [.slice (.int .i64)] [.value] (fun x => F30 n x) := by
  rintro a0 r h
  exact calls_plain (fn_sound lay0_ok mixed (rvs := [.cell 2 44]) (by kernel_rfl : Tryd.prog.funcs[30]? = some Tryd.f30) (by kernel_rfl : Tryd.f30.body = some c30) (by kernel_rfl) (by kernel_rfl) (by kernel_rfl) (GO30 n) noInl_ok (K30 n) ((E30 n a0).symm.trans h)) rfl rfl rfl rfl

/-! ### orthoepy/orthoepylaw00.small -/

def F41l2F (self : List Int → Int → Int → Option (V × Int)) (n : Nat) (rF41l2 : List Int → Int → Int → Int → List UInt8 → Int → Int → Bool → Int → List UInt8 → List (List UInt8) → List V → Int → Bool → Int → List UInt8 → List (List UInt8) → List V → Option (V × Int)) (t0 : List Int) (t1 : Int) (t2 : Int) (t8 : Int) (t10 : List UInt8) (t11 : Int) (b6_0 : Int) (b6_1 : Bool) (b6_2 : Int) (b6_3 : List UInt8) (b6_4 : List (List UInt8)) (b6_5 : List V) (b9_0 : Int) (b9_1 : Bool) (b9_2 : Int) (b9_3 : List UInt8) (b9_4 : List (List UInt8)) (b9_5 : List V) : Option (V × Int) :=
  (bif (!(6 == 0)) then
  (bif (!(5 == 0)) then
  (bif (decide (t11 < (Int.tmod (IntKind.wrap .i64 (Int.tdiv t8 6)) 5))) then
    (match self t0 t1 (IntKind.wrap .i64 (t2 - 1)) with
    | some r2 =>
    (bif (b9_0 == 6) then
      (bif (!(30 == 0)) then
      (bif (!(5 == 0)) then
      (bif ((inB (Int.tmod (IntKind.wrap .i64 ((IntKind.wrap .i64 (Int.tdiv t8 30)) + t11)) 5) 5 && true) && true) then
      (bif (decide (((b9_4).length + (([((([([97] : List UInt8), ([98] : List UInt8), ([99] : List UInt8), ([100] : List UInt8), t10] : List (List UInt8))).getD (Int.toNat (Int.tmod (IntKind.wrap .i64 ((IntKind.wrap .i64 (Int.tdiv t8 30)) + t11)) 5)) (Ty.dflt .str))] : List (List UInt8))).length) * 16 ≤ maxRoom) && decide ((b9_4).length + (([((([([97] : List UInt8), ([98] : List UInt8), ([99] : List UInt8), ([100] : List UInt8), t10] : List (List UInt8))).getD (Int.toNat (Int.tmod (IntKind.wrap .i64 ((IntKind.wrap .i64 (Int.tdiv t8 30)) + t11)) 5)) (Ty.dflt .str))] : List (List UInt8))).length ≤ maxRoom)) then
      (bif (decide (((b9_5).length + (([(V.mk r2.1.kind r2.1.b r2.1.n r2.1.s r2.1.names r2.1.kids)] : List V)).length) * 88 ≤ maxRoom) && decide ((b9_5).length + (([(V.mk r2.1.kind r2.1.b r2.1.n r2.1.s r2.1.names r2.1.kids)] : List V)).length ≤ maxRoom)) then
      rF41l2 t0 r2.2 t2 t8 t10 (IntKind.wrap .i64 (t11 + 1)) b6_0 b6_1 b6_2 b6_3 b6_4 b6_5 b9_0 b9_1 b9_2 b9_3 (b9_4 ++ ([((([([97] : List UInt8), ([98] : List UInt8), ([99] : List UInt8), ([100] : List UInt8), t10] : List (List UInt8))).getD (Int.toNat (Int.tmod (IntKind.wrap .i64 ((IntKind.wrap .i64 (Int.tdiv t8 30)) + t11)) 5)) (Ty.dflt .str))] : List (List UInt8))) (b9_5 ++ ([(V.mk r2.1.kind r2.1.b r2.1.n r2.1.s r2.1.names r2.1.kids)] : List V))
      else none)
      else none)
      else none)
      else none)
      else none)
    else
      (bif (decide (((b9_5).length + (([(V.mk r2.1.kind r2.1.b r2.1.n r2.1.s r2.1.names r2.1.kids)] : List V)).length) * 88 ≤ maxRoom) && decide ((b9_5).length + (([(V.mk r2.1.kind r2.1.b r2.1.n r2.1.s r2.1.names r2.1.kids)] : List V)).length ≤ maxRoom)) then
      rF41l2 t0 r2.2 t2 t8 t10 (IntKind.wrap .i64 (t11 + 1)) b6_0 b6_1 b6_2 b6_3 b6_4 b6_5 b9_0 b9_1 b9_2 b9_3 b9_4 (b9_5 ++ ([(V.mk r2.1.kind r2.1.b r2.1.n r2.1.s r2.1.names r2.1.kids)] : List V))
      else none))
    | none => none)
  else
    some ((V.mk b9_0 b9_1 b9_2 b9_3 b9_4 b9_5), t1))
  else none)
  else none)
def F41l2 (self : List Int → Int → Int → Option (V × Int)) (n : Nat) : Nat → List Int → Int → Int → Int → List UInt8 → Int → Int → Bool → Int → List UInt8 → List (List UInt8) → List V → Int → Bool → Int → List UInt8 → List (List UInt8) → List V → Option (V × Int)
  | 0, _, _, _, _, _, _, _, _, _, _, _, _, _, _, _, _, _, _ => none
  | m + 1, t0, t1, t2, t8, t10, t11, b6_0, b6_1, b6_2, b6_3, b6_4, b6_5, b9_0, b9_1, b9_2, b9_3, b9_4, b9_5 => F41l2F self n (F41l2 self n m) t0 t1 t2 t8 t10 t11 b6_0 b6_1 b6_2 b6_3 b6_4 b6_5 b9_0 b9_1 b9_2 b9_3 b9_4 b9_5

def F41j1 (self : List Int → Int → Int → Option (V × Int)) (n : Nat) (t0 : List Int) (t1 : Int) (t2 : Int) (t8 : Int) (b6_0 : Int) (b6_1 : Bool) (b6_2 : Int) (b6_3 : List UInt8) (b6_4 : List (List UInt8)) (b6_5 : List V) (b9_0 : Int) (b9_1 : Bool) (b9_2 : Int) (b9_3 : List UInt8) (b9_4 : List (List UInt8)) (b9_5 : List V) : Option (V × Int) :=
  (bif (!(150 == 0)) then
  (bif (!(2 == 0)) then
  (bif ((inB (Int.tmod (IntKind.wrap .i64 (Int.tdiv t8 150)) 2) 2 && true) && true) then
  F41l2 self n n t0 t1 t2 t8 ((([([195, 169] : List UInt8), ([101, 204, 129] : List UInt8)] : List (List UInt8))).getD (Int.toNat (Int.tmod (IntKind.wrap .i64 (Int.tdiv t8 150)) 2)) (Ty.dflt .str)) 0 b6_0 b6_1 b6_2 b6_3 b6_4 b6_5 b9_0 b9_1 b9_2 b9_3 b9_4 b9_5
  else none)
  else none)
  else none)

def F41j0 (self : List Int → Int → Int → Option (V × Int)) (n : Nat) (t0 : List Int) (t1 : Int) (t2 : Int) (t8 : Int) (b6_0 : Int) (b6_1 : Bool) (b6_2 : Int) (b6_3 : List UInt8) (b6_4 : List (List UInt8)) (b6_5 : List V) : Option (V × Int) :=
  (bif (t2 == 0) then
    (bif (!(6 == 0)) then
    (bif (!(4 == 0)) then
    (bif ((Int.tmod (IntKind.wrap .i64 (Int.tdiv t8 6)) 4) == 0) then
      some ((V.mk 1 false 0 ([] : List UInt8) ([] : List (List UInt8)) ([] : List V)), (IntKind.wrap .i64 (t1 + 1)))
    else
      (bif ((Int.tmod (IntKind.wrap .i64 (Int.tdiv t8 6)) 4) == 1) then
        (bif (!(24 == 0)) then
        (bif (!(3 == 0)) then
        some ((V.mk 3 false (Int.tmod (IntKind.wrap .i64 (Int.tdiv t8 24)) 3) ([] : List UInt8) ([] : List (List UInt8)) ([] : List V)), (IntKind.wrap .i64 (t1 + 1)))
        else none)
        else none)
      else
        (bif ((Int.tmod (IntKind.wrap .i64 (Int.tdiv t8 6)) 4) == 2) then
          (bif (!(24 == 0)) then
          (bif (!(2 == 0)) then
          some ((V.mk 2 ((Int.tmod (IntKind.wrap .i64 (Int.tdiv t8 24)) 2) == 0) 0 ([] : List UInt8) ([] : List (List UInt8)) ([] : List V)), (IntKind.wrap .i64 (t1 + 1)))
          else none)
          else none)
        else
          (bif (!(24 == 0)) then
          (bif (!(3 == 0)) then
          (bif ((inB (Int.tmod (IntKind.wrap .i64 (Int.tdiv t8 24)) 3) 3 && true) && true) then
          some ((V.mk 4 false 0 ((([([] : List UInt8), ([97] : List UInt8), ([195, 169] : List UInt8)] : List (List UInt8))).getD (Int.toNat (Int.tmod (IntKind.wrap .i64 (Int.tdiv t8 24)) 3)) (Ty.dflt .str)) ([] : List (List UInt8)) ([] : List V)), (IntKind.wrap .i64 (t1 + 1)))
          else none)
          else none)
          else none))))
    else none)
    else none)
  else
    (bif (!(6 == 0)) then
    (bif (decide ((Int.tmod t8 6) < 2)) then
      (bif (!(6 == 0)) then
      (bif (!(4 == 0)) then
      (bif ((Int.tmod (IntKind.wrap .i64 (Int.tdiv t8 6)) 4) == 0) then
        some ((V.mk 1 false 0 ([] : List UInt8) ([] : List (List UInt8)) ([] : List V)), (IntKind.wrap .i64 (t1 + 1)))
      else
        (bif ((Int.tmod (IntKind.wrap .i64 (Int.tdiv t8 6)) 4) == 1) then
          (bif (!(24 == 0)) then
          (bif (!(3 == 0)) then
          some ((V.mk 3 false (Int.tmod (IntKind.wrap .i64 (Int.tdiv t8 24)) 3) ([] : List UInt8) ([] : List (List UInt8)) ([] : List V)), (IntKind.wrap .i64 (t1 + 1)))
          else none)
          else none)
        else
          (bif ((Int.tmod (IntKind.wrap .i64 (Int.tdiv t8 6)) 4) == 2) then
            (bif (!(24 == 0)) then
            (bif (!(2 == 0)) then
            some ((V.mk 2 ((Int.tmod (IntKind.wrap .i64 (Int.tdiv t8 24)) 2) == 0) 0 ([] : List UInt8) ([] : List (List UInt8)) ([] : List V)), (IntKind.wrap .i64 (t1 + 1)))
            else none)
            else none)
          else
            (bif (!(24 == 0)) then
            (bif (!(3 == 0)) then
            (bif ((inB (Int.tmod (IntKind.wrap .i64 (Int.tdiv t8 24)) 3) 3 && true) && true) then
            some ((V.mk 4 false 0 ((([([] : List UInt8), ([97] : List UInt8), ([195, 169] : List UInt8)] : List (List UInt8))).getD (Int.toNat (Int.tmod (IntKind.wrap .i64 (Int.tdiv t8 24)) 3)) (Ty.dflt .str)) ([] : List (List UInt8)) ([] : List V)), (IntKind.wrap .i64 (t1 + 1)))
            else none)
            else none)
            else none))))
      else none)
      else none)
    else
      (bif (decide ((IntKind.wrap .i64 (t1 + 1)) > ((t0).length : Int))) then
        (bif (!(6 == 0)) then
        (bif (!(4 == 0)) then
        (bif ((Int.tmod (IntKind.wrap .i64 (Int.tdiv t8 6)) 4) == 0) then
          some ((V.mk 1 false 0 ([] : List UInt8) ([] : List (List UInt8)) ([] : List V)), (IntKind.wrap .i64 (t1 + 1)))
        else
          (bif ((Int.tmod (IntKind.wrap .i64 (Int.tdiv t8 6)) 4) == 1) then
            (bif (!(24 == 0)) then
            (bif (!(3 == 0)) then
            some ((V.mk 3 false (Int.tmod (IntKind.wrap .i64 (Int.tdiv t8 24)) 3) ([] : List UInt8) ([] : List (List UInt8)) ([] : List V)), (IntKind.wrap .i64 (t1 + 1)))
            else none)
            else none)
          else
            (bif ((Int.tmod (IntKind.wrap .i64 (Int.tdiv t8 6)) 4) == 2) then
              (bif (!(24 == 0)) then
              (bif (!(2 == 0)) then
              some ((V.mk 2 ((Int.tmod (IntKind.wrap .i64 (Int.tdiv t8 24)) 2) == 0) 0 ([] : List UInt8) ([] : List (List UInt8)) ([] : List V)), (IntKind.wrap .i64 (t1 + 1)))
              else none)
              else none)
            else
              (bif (!(24 == 0)) then
              (bif (!(3 == 0)) then
              (bif ((inB (Int.tmod (IntKind.wrap .i64 (Int.tdiv t8 24)) 3) 3 && true) && true) then
              some ((V.mk 4 false 0 ((([([] : List UInt8), ([97] : List UInt8), ([195, 169] : List UInt8)] : List (List UInt8))).getD (Int.toNat (Int.tmod (IntKind.wrap .i64 (Int.tdiv t8 24)) 3)) (Ty.dflt .str)) ([] : List (List UInt8)) ([] : List V)), (IntKind.wrap .i64 (t1 + 1)))
              else none)
              else none)
              else none))))
        else none)
        else none)
      else
        (bif (!(6 == 0)) then
        (bif ((Int.tmod t8 6) == 5) then
          F41j1 self n t0 (IntKind.wrap .i64 (t1 + 1)) t2 t8 b6_0 b6_1 b6_2 b6_3 b6_4 b6_5 5 false 0 ([] : List UInt8) ([] : List (List UInt8)) ([] : List V)
        else
          F41j1 self n t0 (IntKind.wrap .i64 (t1 + 1)) t2 t8 b6_0 b6_1 b6_2 b6_3 b6_4 b6_5 6 false 0 ([] : List UInt8) ([] : List (List UInt8)) ([] : List V))
        else none)))
    else none))

def F41B (self : List Int → Int → Int → Option (V × Int)) (n : Nat) (a0 : List Int) (a1 : Int) (a2 : Int) : Option (V × Int) :=
  (bif (decide (a1 < ((a0).length : Int))) then
    (bif inB a1 (a0).length then
    (match F31 n ((a0).getD (Int.toNat a1) (Ty.dflt (.int .i64))) 1099511627776 with
    | some r1 =>
    F41j0 self n a0 a1 a2 r1 0 false 0 ([] : List UInt8) ([] : List (List UInt8)) ([] : List V)
    | none => none)
    else none)
  else
    F41j0 self n a0 a1 a2 0 0 false 0 ([] : List UInt8) ([] : List (List UInt8)) ([] : List V))

def F41 : Nat → List Int → Int → Int → Option (V × Int)
  | 0, _, _, _ => none
  | n + 1, a0, a1, a2 => F41B (F41 n) n a0 a1 a2

noncomputable def c41 : Code := Tryd.f41.body.getD .skip

noncomputable def G41 (self : List Int → Int → Int → Option (V × Int)) (n : Nat) : Ctx (Res [.value, .int .i64]) := ent 31 [.int .i64, .int .i64] [.int .i64] (fun x => F31 n x.1 x.2) (ent 41 [.slice (.int .i64), .int .i64, .int .i64] [.value, .int .i64] (fun x => self x.1 x.2.1 x.2.2) (noFns))

theorem GO41 (self : List Int → Int → Int → Option (V × Int)) (hs : Told Tryd.prog 41 [.slice (.int .i64), .int .i64, .int .i64] [.value, .int .i64] (fun x => self x.1 x.2.1 x.2.2)) (n : Nat) : CtxOK Tryd.prog lay0 (G41 self n) := ent_ok (T31 n) (fun _ _ h => h) (ent_ok hs (fun _ _ h => h) (noFns_ok))

noncomputable def P41 (self : List Int → Int → Int → Option (V × Int)) (n : Nat) : Pl (Res [.value, .int .i64]) :=
  (.two .leaf (.two .leaf (.join [.val (.tmp 0) (.slice (.int .i64)), .val (.tmp 1) (.int .i64), .val (.tmp 2) (.int .i64), .ptr (.tmp 6) 6 0, .val (.tmp 8) (.int .i64), .val (.cell 6 0) (.int .i64), .val (.cell 6 1) .bool, .val (.cell 6 2) (.int .i64), .val (.cell 6 3) .str, .vec (.cell 6 4) 20000000 9 .str, .vec (.cell 6 5) 20000001 44 .value, .box 6 6] (fun x => F41j0 self n x.1 x.2.1 x.2.2.1 x.2.2.2.2.1 x.2.2.2.2.2.1 x.2.2.2.2.2.2.1 x.2.2.2.2.2.2.2.1 x.2.2.2.2.2.2.2.2.1 x.2.2.2.2.2.2.2.2.2.1 x.2.2.2.2.2.2.2.2.2.2.1) .leaf (.two .leaf (.two .leaf (.two .leaf (.join [.val (.tmp 0) (.slice (.int .i64)), .val (.tmp 1) (.int .i64), .val (.tmp 2) (.int .i64), .ptr (.tmp 6) 6 0, .val (.tmp 8) (.int .i64), .ptr (.tmp 9) 9 0, .val (.cell 6 0) (.int .i64), .val (.cell 6 1) .bool, .val (.cell 6 2) (.int .i64), .val (.cell 6 3) .str, .vec (.cell 6 4) 20000000 9 .str, .vec (.cell 6 5) 20000001 44 .value, .val (.cell 9 0) (.int .i64), .val (.cell 9 1) .bool, .val (.cell 9 2) (.int .i64), .val (.cell 9 3) .str, .vec (.cell 9 4) 20000002 9 .str, .vec (.cell 9 5) 20000003 44 .value, .box 6 6, .box 9 6] (fun x => F41j1 self n x.1 x.2.1 x.2.2.1 x.2.2.2.2.1 x.2.2.2.2.2.2.1 x.2.2.2.2.2.2.2.1 x.2.2.2.2.2.2.2.2.1 x.2.2.2.2.2.2.2.2.2.1 x.2.2.2.2.2.2.2.2.2.2.1 x.2.2.2.2.2.2.2.2.2.2.2.1 x.2.2.2.2.2.2.2.2.2.2.2.2.1 x.2.2.2.2.2.2.2.2.2.2.2.2.2.1 x.2.2.2.2.2.2.2.2.2.2.2.2.2.2.1 x.2.2.2.2.2.2.2.2.2.2.2.2.2.2.2.1 x.2.2.2.2.2.2.2.2.2.2.2.2.2.2.2.2.1 x.2.2.2.2.2.2.2.2.2.2.2.2.2.2.2.2.2.1) .leaf (.two .leaf (.two (.two .leaf (.one (.loop [.val (.tmp 0) (.slice (.int .i64)), .val (.tmp 1) (.int .i64), .val (.tmp 2) (.int .i64), .ptr (.tmp 6) 6 0, .val (.tmp 8) (.int .i64), .ptr (.tmp 9) 9 0, .val (.tmp 10) .str, .val (.tmp 11) (.int .i64), .val (.cell 6 0) (.int .i64), .val (.cell 6 1) .bool, .val (.cell 6 2) (.int .i64), .val (.cell 6 3) .str, .vec (.cell 6 4) 20000000 9 .str, .vec (.cell 6 5) 20000001 44 .value, .val (.cell 9 0) (.int .i64), .val (.cell 9 1) .bool, .val (.cell 9 2) (.int .i64), .val (.cell 9 3) .str, .vec (.cell 9 4) 20000002 9 .str, .vec (.cell 9 5) 20000003 44 .value, .box 6 6, .box 9 6] n (fun m x => F41l2 self n m x.1 x.2.1 x.2.2.1 x.2.2.2.2.1 x.2.2.2.2.2.2.1 x.2.2.2.2.2.2.2.1 x.2.2.2.2.2.2.2.2.1 x.2.2.2.2.2.2.2.2.2.1 x.2.2.2.2.2.2.2.2.2.2.1 x.2.2.2.2.2.2.2.2.2.2.2.1 x.2.2.2.2.2.2.2.2.2.2.2.2.1 x.2.2.2.2.2.2.2.2.2.2.2.2.2.1 x.2.2.2.2.2.2.2.2.2.2.2.2.2.2.1 x.2.2.2.2.2.2.2.2.2.2.2.2.2.2.2.1 x.2.2.2.2.2.2.2.2.2.2.2.2.2.2.2.2.1 x.2.2.2.2.2.2.2.2.2.2.2.2.2.2.2.2.2.1 x.2.2.2.2.2.2.2.2.2.2.2.2.2.2.2.2.2.2.1 x.2.2.2.2.2.2.2.2.2.2.2.2.2.2.2.2.2.2.2.1) (fun _ => .leaf)))) .leaf)))))))))

theorem K41 (self : List Int → Int → Int → Option (V × Int)) (n : Nat) : PlOK (G41 self n) noInl lay0 117 (P41 self n) c41 (fnK lay0 [.cell 6 44, .tmp 7] [.val (.slice (.int .i64)), .val (.int .i64), .val (.int .i64)] [.val .value, .val (.int .i64)] [.value, .int .i64]) :=
  ⟨trivial, ⟨trivial, ⟨by kernel_rfl, fun x => by kernel_rfl, trivial, ⟨trivial, ⟨trivial, ⟨trivial, ⟨by kernel_rfl, fun x => by kernel_rfl, trivial, ⟨trivial, ⟨⟨trivial, ⟨by kernel_rfl, fun x => by kernel_rfl, fun m => ⟨fun x => by kernel_rfl, trivial⟩⟩⟩, trivial⟩⟩⟩⟩⟩⟩⟩⟩⟩

theorem E41 (self : List Int → Int → Int → Option (V × Int)) (n : Nat) (a0 : List Int) (a1 : Int) (a2 : Int) : F41B self n a0 a1 a2 = fnE [.val (.slice (.int .i64)), .val (.int .i64), .val (.int .i64)] (argDs [.slice (.int .i64), .int .i64, .int .i64] (a0, a1, a2)) (fun st => ev (G41 self n) noInl lay0 117 c41 (P41 self n) st (fnK lay0 [.cell 6 44, .tmp 7] [.val (.slice (.int .i64)), .val (.int .i64), .val (.int .i64)] [.val .value, .val (.int .i64)] [.value, .int .i64])) := by kernel_rfl

theorem TB41 (self : List Int → Int → Int → Option (V × Int)) (hs : Told Tryd.prog 41 [.slice (.int .i64), .int .i64, .int .i64] [.value, .int .i64] (fun x => self x.1 x.2.1 x.2.2)) (n : Nat) : Told Tryd.prog 41 [.slice (.int .i64), .int .i64, .int .i64] [.value, .int .i64] (fun x => F41B self n x.1 x.2.1 x.2.2) := by
  rintro ⟨a0, a1, a2⟩ r h
  exact calls_plain (fn_sound lay0_ok mixed (rvs := [.cell 6 44, .tmp 7]) (by kernel_rfl : Tryd.prog.funcs[41]? = some Tryd.f41) (by kernel_rfl : Tryd.f41.body = some c41) (by kernel_rfl) (by kernel_rfl) (by kernel_rfl) (GO41 self hs n) noInl_ok (K41 self n) ((E41 self n a0 a1 a2).symm.trans h)) rfl rfl rfl rfl

theorem T41 : ∀ n : Nat, Told Tryd.prog 41 [.slice (.int .i64), .int .i64, .int .i64] [.value, .int .i64] (fun x => F41 n x.1 x.2.1 x.2.2)
  | 0 => fun _ _ h => by cases h
  | n + 1 => TB41 (F41 n) (T41 n) n

/-! ### orthoepy/orthoepylaw00.Small -/

def F24 (n : Nat) (a0 : List Int) : Option (V) :=
  (match F41 n a0 0 4 with
  | some r1 =>
  some (V.mk r1.1.kind r1.1.b r1.1.n r1.1.s r1.1.names r1.1.kids)
  | none => none)

noncomputable def c24 : Code := Tryd.f24.body.getD .skip

noncomputable def G24 (n : Nat) : Ctx (Res [.value]) := ent 41 [.slice (.int .i64), .int .i64, .int .i64] [.value, .int .i64] (fun x => F41 n x.1 x.2.1 x.2.2) (noFns)

theorem GO24 (n : Nat) : CtxOK Tryd.prog lay0 (G24 n) := ent_ok (T41 n) (fun _ _ h => h) (noFns_ok)

noncomputable def P24 (n : Nat) : Pl (Res [.value]) :=
  .leaf

theorem K24 (n : Nat) : PlOK (G24 n) noInl lay0 11 (P24 n) c24 (fnK lay0 [.cell 2 44] [.val (.slice (.int .i64))] [.val .value] [.value]) :=
  trivial

theorem E24 (n : Nat) (a0 : List Int) : F24 n a0 = fnE [.val (.slice (.int .i64))] (argDs [.slice (.int .i64)] (a0)) (fun st => ev (G24 n) noInl lay0 11 c24 (P24 n) st (fnK lay0 [.cell 2 44] [.val (.slice (.int .i64))] [.val .value] [.value])) := by kernel_rfl

theorem T24 (n : Nat) : Told Tryd.prog 24 [.slice (.int .i64)] [.value] (fun x => F24 n x) := by
  rintro a0 r h
  exact calls_plain (fn_sound lay0_ok mixed (rvs := [.cell 2 44]) (by kernel_rfl : Tryd.prog.funcs[24]? = some Tryd.f24) (by kernel_rfl : Tryd.f24.body = some c24) (by kernel_rfl) (by kernel_rfl) (by kernel_rfl) (GO24 n) noInl_ok (K24 n) ((E24 n a0).symm.trans h)) rfl rfl rfl rfl

/-! ### orthoepy/orthoepylaw25.token -/

def F27 (n : Nat) (a0 : Int) : Option ((List UInt8)) :=
  (match F31 n a0 16 with
  | some r1 =>
  (bif (inB r1 16 && true) then
  some ((([([97] : List UInt8), ([98] : List UInt8), ([99] : List UInt8), ([100] : List UInt8), ([195, 169] : List UInt8), ([101, 204, 129] : List UInt8), ([48] : List UInt8), ([49] : List UInt8), ([50] : List UInt8), ([51] : List UInt8), ([48, 48] : List UInt8), ([45] : List UInt8), ([] : List UInt8), ([49, 48] : List UInt8), ([97] : List UInt8), ([48] : List UInt8)] : List (List UInt8))).getD (Int.toNat r1) (Ty.dflt .str))
  else none)
  | none => none)

noncomputable def c27 : Code := Tryd.f27.body.getD .skip

noncomputable def G27 (n : Nat) : Ctx (Res [.str]) := ent 31 [.int .i64, .int .i64] [.int .i64] (fun x => F31 n x.1 x.2) (noFns)

theorem GO27 (n : Nat) : CtxOK Tryd.prog lay0 (G27 n) := ent_ok (T31 n) (fun _ _ h => h) (noFns_ok)

noncomputable def P27 (n : Nat) : Pl (Res [.str]) :=
  .leaf

theorem K27 (n : Nat) : PlOK (G27 n) noInl lay0 9 (P27 n) c27 (fnK lay0 [.tmp 2] [.val (.int .i64)] [.val .str] [.str]) :=
  trivial

theorem E27 (n : Nat) (a0 : Int) : F27 n a0 = fnE [.val (.int .i64)] (argDs [.int .i64] (a0)) (fun st => ev (G27 n) noInl lay0 9 c27 (P27 n) st (fnK lay0 [.tmp 2] [.val (.int .i64)] [.val .str] [.str])) := by kernel_rfl

theorem T27 (n : Nat) : Told Tryd.prog 27 [.int .i64] [.str] (fun x => F27 n x) := by
  rintro a0 r h
  exact calls_plain (fn_sound lay0_ok mixed (rvs := [.tmp 2]) (by kernel_rfl : Tryd.prog.funcs[27]? = some Tryd.f27) (by kernel_rfl : Tryd.f27.body = some c27) (by kernel_rfl) (by kernel_rfl) (by kernel_rfl) (GO27 n) noInl_ok (K27 n) ((E27 n a0).symm.trans h)) rfl rfl rfl rfl

/-! ### orthoepy/orthoepylaw18.put -/

def F43l0F (self : (List ((Int × (Bool × (Int × (List UInt8 × (List UInt8 × (Int × (Int × Unit))))))) × (Int × (Int × Unit))) × Unit) → Int → List UInt8 → V → Option ((List ((Int × (Bool × (Int × (List UInt8 × (List UInt8 × (Int × (Int × Unit))))))) × (Int × (Int × Unit))) × Unit))) (n : Nat) (rF43l0 : Int → Int → Int → Bool → Int → List UInt8 → List (List UInt8) → List V → List ((Int × (Bool × (Int × (List UInt8 × (List UInt8 × (Int × (Int × Unit))))))) × (Int × (Int × Unit))) → Option ((List ((Int × (Bool × (Int × (List UInt8 × (List UInt8 × (Int × (Int × Unit))))))) × (Int × (Int × Unit))) × Unit))) (t8 : Int) (t9 : Int) (b7_0 : Int) (b7_1 : Bool) (b7_2 : Int) (b7_3 : List UInt8) (b7_4 : List (List UInt8)) (b7_5 : List V) (b100000_0 : List ((Int × (Bool × (Int × (List UInt8 × (List UInt8 × (Int × (Int × Unit))))))) × (Int × (Int × Unit)))) : Option ((List ((Int × (Bool × (Int × (List UInt8 × (List UInt8 × (Int × (Int × Unit))))))) × (Int × (Int × Unit))) × Unit)) :=
  (bif (decide (t9 < ((b7_5).length : Int))) then
    (bif (decide (t9 < ((b7_4).length : Int))) then
      (bif inB t9 (b7_4).length then
      (bif inB t9 (b7_5).length then
      (match self (b100000_0, ()) t8 ((b7_4).getD (Int.toNat t9) (Ty.dflt .str)) ((b7_5).getD (Int.toNat t9) (Ty.dflt .value)) with
      | some r2 =>
      rF43l0 t8 (IntKind.wrap .i64 (t9 + 1)) b7_0 b7_1 b7_2 b7_3 b7_4 b7_5 r2.1
      | none => none)
      else none)
      else none)
    else
      (bif inB t9 (b7_5).length then
      (match self (b100000_0, ()) t8 ([] : List UInt8) ((b7_5).getD (Int.toNat t9) (Ty.dflt .value)) with
      | some r3 =>
      rF43l0 t8 (IntKind.wrap .i64 (t9 + 1)) b7_0 b7_1 b7_2 b7_3 b7_4 b7_5 r3.1
      | none => none)
      else none))
  else
    some (b100000_0, ()))
def F43l0 (self : (List ((Int × (Bool × (Int × (List UInt8 × (List UInt8 × (Int × (Int × Unit))))))) × (Int × (Int × Unit))) × Unit) → Int → List UInt8 → V → Option ((List ((Int × (Bool × (Int × (List UInt8 × (List UInt8 × (Int × (Int × Unit))))))) × (Int × (Int × Unit))) × Unit))) (n : Nat) : Nat → Int → Int → Int → Bool → Int → List UInt8 → List (List UInt8) → List V → List ((Int × (Bool × (Int × (List UInt8 × (List UInt8 × (Int × (Int × Unit))))))) × (Int × (Int × Unit))) → Option ((List ((Int × (Bool × (Int × (List UInt8 × (List UInt8 × (Int × (Int × Unit))))))) × (Int × (Int × Unit))) × Unit))
  | 0, _, _, _, _, _, _, _, _, _ => none
  | m + 1, t8, t9, b7_0, b7_1, b7_2, b7_3, b7_4, b7_5, b100000_0 => F43l0F self n (F43l0 self n m) t8 t9 b7_0 b7_1 b7_2 b7_3 b7_4 b7_5 b100000_0

def F43B (self : (List ((Int × (Bool × (Int × (List UInt8 × (List UInt8 × (Int × (Int × Unit))))))) × (Int × (Int × Unit))) × Unit) → Int → List UInt8 → V → Option ((List ((Int × (Bool × (Int × (List UInt8 × (List UInt8 × (Int × (Int × Unit))))))) × (Int × (Int × Unit))) × Unit))) (n : Nat) (a0 : (List ((Int × (Bool × (Int × (List UInt8 × (List UInt8 × (Int × (Int × Unit))))))) × (Int × (Int × Unit))) × Unit)) (a1 : Int) (a2 : List UInt8) (a3 : V) : Option ((List ((Int × (Bool × (Int × (List UInt8 × (List UInt8 × (Int × (Int × Unit))))))) × (Int × (Int × Unit))) × Unit)) :=
  (match F60 n a0 a1 (a3.kind, (a3.b, (a3.n, (a3.s, (a2, (0, (0, ()))))))) with
  | some r1 =>
  F43l0 self n n r1.2 0 a3.kind a3.b a3.n a3.s a3.names a3.kids r1.1.1
  | none => none)

def F43 : Nat → (List ((Int × (Bool × (Int × (List UInt8 × (List UInt8 × (Int × (Int × Unit))))))) × (Int × (Int × Unit))) × Unit) → Int → List UInt8 → V → Option ((List ((Int × (Bool × (Int × (List UInt8 × (List UInt8 × (Int × (Int × Unit))))))) × (Int × (Int × Unit))) × Unit))
  | 0, _, _, _, _ => none
  | n + 1, a0, a1, a2, a3 => F43B (F43 n) n a0 a1 a2 a3

noncomputable def lay43 : Lay := layOf layL [(43, .io [.box (.pair (.vec 92 (.pair (.pair (.int .i64) (.pair .bool (.pair (.int .i64) (.pair .str (.pair .str (.pair (.int .i64) (.pair (.int .i64) .unit))))))) (.pair (.int .i64) (.pair (.int .i64) .unit)))) .unit), .val (.int .i64), .val .str, .val .value] []), (60, .io [.box (.pair (.vec 92 (.pair (.pair (.int .i64) (.pair .bool (.pair (.int .i64) (.pair .str (.pair .str (.pair (.int .i64) (.pair (.int .i64) .unit))))))) (.pair (.int .i64) (.pair (.int .i64) .unit)))) .unit), .val (.int .i64), .val (.pair (.int .i64) (.pair .bool (.pair (.int .i64) (.pair .str (.pair .str (.pair (.int .i64) (.pair (.int .i64) .unit)))))))] [.val (.int .i64)])]
theorem lay43_ok : LayOK Tryd.prog lay43 := layOf_ok layAll (by
  intro p hp
  simp only [List.mem_cons, List.not_mem_nil, or_false] at hp
  rcases hp with rfl | rfl
  · exact trivial
  · exact trivial) layEq

noncomputable def c43 : Code := Tryd.f43.body.getD .skip

noncomputable def G43 (self : (List ((Int × (Bool × (Int × (List UInt8 × (List UInt8 × (Int × (Int × Unit))))))) × (Int × (Int × Unit))) × Unit) → Int → List UInt8 → V → Option ((List ((Int × (Bool × (Int × (List UInt8 × (List UInt8 × (Int × (Int × Unit))))))) × (Int × (Int × Unit))) × Unit))) (n : Nat) : Ctx (Res [.pair (.slice (.pair (.pair (.int .i64) (.pair .bool (.pair (.int .i64) (.pair .str (.pair .str (.pair (.int .i64) (.pair (.int .i64) .unit))))))) (.pair (.int .i64) (.pair (.int .i64) .unit)))) .unit]) := entIo 43 [.pair (.slice (.pair (.pair (.int .i64) (.pair .bool (.pair (.int .i64) (.pair .str (.pair .str (.pair (.int .i64) (.pair (.int .i64) .unit))))))) (.pair (.int .i64) (.pair (.int .i64) .unit)))) .unit, .int .i64, .str, .value] [.pair (.slice (.pair (.pair (.int .i64) (.pair .bool (.pair (.int .i64) (.pair .str (.pair .str (.pair (.int .i64) (.pair (.int .i64) .unit))))))) (.pair (.int .i64) (.pair (.int .i64) .unit)))) .unit] (fun x => self x.1 x.2.1 x.2.2.1 x.2.2.2) (entIo 60 [.pair (.slice (.pair (.pair (.int .i64) (.pair .bool (.pair (.int .i64) (.pair .str (.pair .str (.pair (.int .i64) (.pair (.int .i64) .unit))))))) (.pair (.int .i64) (.pair (.int .i64) .unit)))) .unit, .int .i64, .pair (.int .i64) (.pair .bool (.pair (.int .i64) (.pair .str (.pair .str (.pair (.int .i64) (.pair (.int .i64) .unit))))))] [.pair (.slice (.pair (.pair (.int .i64) (.pair .bool (.pair (.int .i64) (.pair .str (.pair .str (.pair (.int .i64) (.pair (.int .i64) .unit))))))) (.pair (.int .i64) (.pair (.int .i64) .unit)))) .unit, .int .i64] (fun x => F60 n x.1 x.2.1 x.2.2) (noFns))

theorem GO43 (self : (List ((Int × (Bool × (Int × (List UInt8 × (List UInt8 × (Int × (Int × Unit))))))) × (Int × (Int × Unit))) × Unit) → Int → List UInt8 → V → Option ((List ((Int × (Bool × (Int × (List UInt8 × (List UInt8 × (Int × (Int × Unit))))))) × (Int × (Int × Unit))) × Unit))) (hs : ToldIo Tryd.prog 43 [.box (.pair (.vec 92 (.pair (.pair (.int .i64) (.pair .bool (.pair (.int .i64) (.pair .str (.pair .str (.pair (.int .i64) (.pair (.int .i64) .unit))))))) (.pair (.int .i64) (.pair (.int .i64) .unit)))) .unit), .val (.int .i64), .val .str, .val .value] [] [.pair (.slice (.pair (.pair (.int .i64) (.pair .bool (.pair (.int .i64) (.pair .str (.pair .str (.pair (.int .i64) (.pair (.int .i64) .unit))))))) (.pair (.int .i64) (.pair (.int .i64) .unit)))) .unit, .int .i64, .str, .value] [.pair (.slice (.pair (.pair (.int .i64) (.pair .bool (.pair (.int .i64) (.pair .str (.pair .str (.pair (.int .i64) (.pair (.int .i64) .unit))))))) (.pair (.int .i64) (.pair (.int .i64) .unit)))) .unit] (fun x => self x.1 x.2.1 x.2.2.1 x.2.2.2)) (n : Nat) : CtxOK Tryd.prog lay43 (G43 self n) := ent_okIo (ps := [.box (.pair (.vec 92 (.pair (.pair (.int .i64) (.pair .bool (.pair (.int .i64) (.pair .str (.pair .str (.pair (.int .i64) (.pair (.int .i64) .unit))))))) (.pair (.int .i64) (.pair (.int .i64) .unit)))) .unit), .val (.int .i64), .val .str, .val .value]) (rss := []) hs (fun _ _ h => h) (ent_okIo (ps := [.box (.pair (.vec 92 (.pair (.pair (.int .i64) (.pair .bool (.pair (.int .i64) (.pair .str (.pair .str (.pair (.int .i64) (.pair (.int .i64) .unit))))))) (.pair (.int .i64) (.pair (.int .i64) .unit)))) .unit), .val (.int .i64), .val (.pair (.int .i64) (.pair .bool (.pair (.int .i64) (.pair .str (.pair .str (.pair (.int .i64) (.pair (.int .i64) .unit)))))))]) (rss := [.val (.int .i64)]) (T60 n) (fun _ _ h => h) (noFns_ok))

noncomputable def P43 (self : (List ((Int × (Bool × (Int × (List UInt8 × (List UInt8 × (Int × (Int × Unit))))))) × (Int × (Int × Unit))) × Unit) → Int → List UInt8 → V → Option ((List ((Int × (Bool × (Int × (List UInt8 × (List UInt8 × (Int × (Int × Unit))))))) × (Int × (Int × Unit))) × Unit))) (n : Nat) : Pl (Res [.pair (.slice (.pair (.pair (.int .i64) (.pair .bool (.pair (.int .i64) (.pair .str (.pair .str (.pair (.int .i64) (.pair (.int .i64) .unit))))))) (.pair (.int .i64) (.pair (.int .i64) .unit)))) .unit]) :=
  (.two .leaf (.two .leaf (.two .leaf (.one (.loop [.ptr (.tmp 0) 100000 0, .ptr (.tmp 7) 7 0, .val (.tmp 8) (.int .i64), .val (.tmp 9) (.int .i64), .val (.cell 7 0) (.int .i64), .val (.cell 7 1) .bool, .val (.cell 7 2) (.int .i64), .val (.cell 7 3) .str, .val (.cell 7 4) (.slice .str), .val (.cell 7 5) (.slice .value), .vec (.cell 100000 0) 20000000 92 (.pair (.pair (.int .i64) (.pair .bool (.pair (.int .i64) (.pair .str (.pair .str (.pair (.int .i64) (.pair (.int .i64) .unit))))))) (.pair (.int .i64) (.pair (.int .i64) .unit))), .ptr (.sv 0) 100000 0, .box 7 6, .box 100000 1] n (fun m x => F43l0 self n m x.2.2.1 x.2.2.2.1 x.2.2.2.2.1 x.2.2.2.2.2.1 x.2.2.2.2.2.2.1 x.2.2.2.2.2.2.2.1 x.2.2.2.2.2.2.2.2.1 x.2.2.2.2.2.2.2.2.2.1 x.2.2.2.2.2.2.2.2.2.2.1) (fun _ => .leaf))))))

theorem K43 (self : (List ((Int × (Bool × (Int × (List UInt8 × (List UInt8 × (Int × (Int × Unit))))))) × (Int × (Int × Unit))) × Unit) → Int → List UInt8 → V → Option ((List ((Int × (Bool × (Int × (List UInt8 × (List UInt8 × (Int × (Int × Unit))))))) × (Int × (Int × Unit))) × Unit))) (n : Nat) : PlOK (G43 self n) noInl lay43 50 (P43 self n) c43 (fnK lay43 [] [.box (.pair (.vec 92 (.pair (.pair (.int .i64) (.pair .bool (.pair (.int .i64) (.pair .str (.pair .str (.pair (.int .i64) (.pair (.int .i64) .unit))))))) (.pair (.int .i64) (.pair (.int .i64) .unit)))) .unit), .val (.int .i64), .val .str, .val .value] [] [.pair (.slice (.pair (.pair (.int .i64) (.pair .bool (.pair (.int .i64) (.pair .str (.pair .str (.pair (.int .i64) (.pair (.int .i64) .unit))))))) (.pair (.int .i64) (.pair (.int .i64) .unit)))) .unit]) :=
  ⟨trivial, ⟨trivial, ⟨trivial, ⟨by kernel_rfl, fun x => by kernel_rfl, fun m => ⟨fun x => by kernel_rfl, trivial⟩⟩⟩⟩⟩

theorem E43 (self : (List ((Int × (Bool × (Int × (List UInt8 × (List UInt8 × (Int × (Int × Unit))))))) × (Int × (Int × Unit))) × Unit) → Int → List UInt8 → V → Option ((List ((Int × (Bool × (Int × (List UInt8 × (List UInt8 × (Int × (Int × Unit))))))) × (Int × (Int × Unit))) × Unit))) (n : Nat) (a0 : (List ((Int × (Bool × (Int × (List UInt8 × (List UInt8 × (Int × (Int × Unit))))))) × (Int × (Int × Unit))) × Unit)) (a1 : Int) (a2 : List UInt8) (a3 : V) : F43B self n a0 a1 a2 a3 = fnE [.box (.pair (.vec 92 (.pair (.pair (.int .i64) (.pair .bool (.pair (.int .i64) (.pair .str (.pair .str (.pair (.int .i64) (.pair (.int .i64) .unit))))))) (.pair (.int .i64) (.pair (.int .i64) .unit)))) .unit), .val (.int .i64), .val .str, .val .value] (argDs [.pair (.slice (.pair (.pair (.int .i64) (.pair .bool (.pair (.int .i64) (.pair .str (.pair .str (.pair (.int .i64) (.pair (.int .i64) .unit))))))) (.pair (.int .i64) (.pair (.int .i64) .unit)))) .unit, .int .i64, .str, .value] (a0, a1, a2, a3)) (fun st => ev (G43 self n) noInl lay43 50 c43 (P43 self n) st (fnK lay43 [] [.box (.pair (.vec 92 (.pair (.pair (.int .i64) (.pair .bool (.pair (.int .i64) (.pair .str (.pair .str (.pair (.int .i64) (.pair (.int .i64) .unit))))))) (.pair (.int .i64) (.pair (.int .i64) .unit)))) .unit), .val (.int .i64), .val .str, .val .value] [] [.pair (.slice (.pair (.pair (.int .i64) (.pair .bool (.pair (.int .i64) (.pair .str (.pair .str (.pair (.int .i64) (.pair (.int .i64) .unit))))))) (.pair (.int .i64) (.pair (.int .i64) .unit)))) .unit])) := by kernel_rfl

theorem TB43 (self : (List ((Int × (Bool × (Int × (List UInt8 × (List UInt8 × (Int × (Int × Unit))))))) × (Int × (Int × Unit))) × Unit) → Int → List UInt8 → V → Option ((List ((Int × (Bool × (Int × (List UInt8 × (List UInt8 × (Int × (Int × Unit))))))) × (Int × (Int × Unit))) × Unit))) (hs : ToldIo Tryd.prog 43 [.box (.pair (.vec 92 (.pair (.pair (.int .i64) (.pair .bool (.pair (.int .i64) (.pair .str (.pair .str (.pair (.int .i64) (.pair (.int .i64) .unit))))))) (.pair (.int .i64) (.pair (.int .i64) .unit)))) .unit), .val (.int .i64), .val .str, .val .value] [] [.pair (.slice (.pair (.pair (.int .i64) (.pair .bool (.pair (.int .i64) (.pair .str (.pair .str (.pair (.int .i64) (.pair (.int .i64) .unit))))))) (.pair (.int .i64) (.pair (.int .i64) .unit)))) .unit, .int .i64, .str, .value] [.pair (.slice (.pair (.pair (.int .i64) (.pair .bool (.pair (.int .i64) (.pair .str (.pair .str (.pair (.int .i64) (.pair (.int .i64) .unit))))))) (.pair (.int .i64) (.pair (.int .i64) .unit)))) .unit] (fun x => self x.1 x.2.1 x.2.2.1 x.2.2.2)) (n : Nat) : ToldIo Tryd.prog 43 [.box (.pair (.vec 92 (.pair (.pair (.int .i64) (.pair .bool (.pair (.int .i64) (.pair .str (.pair .str (.pair (.int .i64) (.pair (.int .i64) .unit))))))) (.pair (.int .i64) (.pair (.int .i64) .unit)))) .unit), .val (.int .i64), .val .str, .val .value] [] [.pair (.slice (.pair (.pair (.int .i64) (.pair .bool (.pair (.int .i64) (.pair .str (.pair .str (.pair (.int .i64) (.pair (.int .i64) .unit))))))) (.pair (.int .i64) (.pair (.int .i64) .unit)))) .unit, .int .i64, .str, .value] [.pair (.slice (.pair (.pair (.int .i64) (.pair .bool (.pair (.int .i64) (.pair .str (.pair .str (.pair (.int .i64) (.pair (.int .i64) .unit))))))) (.pair (.int .i64) (.pair (.int .i64) .unit)))) .unit] (fun x => F43B self n x.1 x.2.1 x.2.2.1 x.2.2.2) := by
  rintro ⟨a0, a1, a2, a3⟩ r h
  exact fn_sound lay43_ok mixed (rvs := []) (by kernel_rfl : Tryd.prog.funcs[43]? = some Tryd.f43) (by kernel_rfl : Tryd.f43.body = some c43) (by kernel_rfl) (by kernel_rfl) (by kernel_rfl) (GO43 self hs n) noInl_ok (K43 self n) ((E43 self n a0 a1 a2 a3).symm.trans h)

theorem T43 : ∀ n : Nat, ToldIo Tryd.prog 43 [.box (.pair (.vec 92 (.pair (.pair (.int .i64) (.pair .bool (.pair (.int .i64) (.pair .str (.pair .str (.pair (.int .i64) (.pair (.int .i64) .unit))))))) (.pair (.int .i64) (.pair (.int .i64) .unit)))) .unit), .val (.int .i64), .val .str, .val .value] [] [.pair (.slice (.pair (.pair (.int .i64) (.pair .bool (.pair (.int .i64) (.pair .str (.pair .str (.pair (.int .i64) (.pair (.int .i64) .unit))))))) (.pair (.int .i64) (.pair (.int .i64) .unit)))) .unit, .int .i64, .str, .value] [.pair (.slice (.pair (.pair (.int .i64) (.pair .bool (.pair (.int .i64) (.pair .str (.pair .str (.pair (.int .i64) (.pair (.int .i64) .unit))))))) (.pair (.int .i64) (.pair (.int .i64) .unit)))) .unit] (fun x => F43 n x.1 x.2.1 x.2.2.1 x.2.2.2)
  | 0 => fun _ _ h => by cases h
  | n + 1 => TB43 (F43 n) (T43 n) n

/-! ### orthoepy/orthoepyref20.put -/

def F44l0F (self : (List (Int × (Bool × (Int × (List UInt8 × (List UInt8 × (Int × (Int × Unit))))))) × (List Int × (List Int × Unit))) → Int → List UInt8 → V → Option ((List (Int × (Bool × (Int × (List UInt8 × (List UInt8 × (Int × (Int × Unit))))))) × (List Int × (List Int × Unit))))) (n : Nat) (rF44l0 : Int → Int → Int → Bool → Int → List UInt8 → List (List UInt8) → List V → List (Int × (Bool × (Int × (List UInt8 × (List UInt8 × (Int × (Int × Unit))))))) → List Int → List Int → Option ((List (Int × (Bool × (Int × (List UInt8 × (List UInt8 × (Int × (Int × Unit))))))) × (List Int × (List Int × Unit))))) (t8 : Int) (t9 : Int) (b7_0 : Int) (b7_1 : Bool) (b7_2 : Int) (b7_3 : List UInt8) (b7_4 : List (List UInt8)) (b7_5 : List V) (b100000_0 : List (Int × (Bool × (Int × (List UInt8 × (List UInt8 × (Int × (Int × Unit)))))))) (b100000_1 : List Int) (b100000_2 : List Int) : Option ((List (Int × (Bool × (Int × (List UInt8 × (List UInt8 × (Int × (Int × Unit))))))) × (List Int × (List Int × Unit)))) :=
  (bif (decide (t9 < ((b7_5).length : Int))) then
    (bif (decide (t9 < ((b7_4).length : Int))) then
      (bif inB t9 (b7_4).length then
      (bif inB t9 (b7_5).length then
      (match self (b100000_0, (b100000_1, (b100000_2, ()))) t8 ((b7_4).getD (Int.toNat t9) (Ty.dflt .str)) ((b7_5).getD (Int.toNat t9) (Ty.dflt .value)) with
      | some r2 =>
      rF44l0 t8 (IntKind.wrap .i64 (t9 + 1)) b7_0 b7_1 b7_2 b7_3 b7_4 b7_5 r2.1 r2.2.1 r2.2.2.1
      | none => none)
      else none)
      else none)
    else
      (bif inB t9 (b7_5).length then
      (match self (b100000_0, (b100000_1, (b100000_2, ()))) t8 ([] : List UInt8) ((b7_5).getD (Int.toNat t9) (Ty.dflt .value)) with
      | some r3 =>
      rF44l0 t8 (IntKind.wrap .i64 (t9 + 1)) b7_0 b7_1 b7_2 b7_3 b7_4 b7_5 r3.1 r3.2.1 r3.2.2.1
      | none => none)
      else none))
  else
    some (b100000_0, (b100000_1, (b100000_2, ()))))
def F44l0 (self : (List (Int × (Bool × (Int × (List UInt8 × (List UInt8 × (Int × (Int × Unit))))))) × (List Int × (List Int × Unit))) → Int → List UInt8 → V → Option ((List (Int × (Bool × (Int × (List UInt8 × (List UInt8 × (Int × (Int × Unit))))))) × (List Int × (List Int × Unit))))) (n : Nat) : Nat → Int → Int → Int → Bool → Int → List UInt8 → List (List UInt8) → List V → List (Int × (Bool × (Int × (List UInt8 × (List UInt8 × (Int × (Int × Unit))))))) → List Int → List Int → Option ((List (Int × (Bool × (Int × (List UInt8 × (List UInt8 × (Int × (Int × Unit))))))) × (List Int × (List Int × Unit))))
  | 0, _, _, _, _, _, _, _, _, _, _, _ => none
  | m + 1, t8, t9, b7_0, b7_1, b7_2, b7_3, b7_4, b7_5, b100000_0, b100000_1, b100000_2 => F44l0F self n (F44l0 self n m) t8 t9 b7_0 b7_1 b7_2 b7_3 b7_4 b7_5 b100000_0 b100000_1 b100000_2

def F44B (self : (List (Int × (Bool × (Int × (List UInt8 × (List UInt8 × (Int × (Int × Unit))))))) × (List Int × (List Int × Unit))) → Int → List UInt8 → V → Option ((List (Int × (Bool × (Int × (List UInt8 × (List UInt8 × (Int × (Int × Unit))))))) × (List Int × (List Int × Unit))))) (n : Nat) (a0 : (List (Int × (Bool × (Int × (List UInt8 × (List UInt8 × (Int × (Int × Unit))))))) × (List Int × (List Int × Unit)))) (a1 : Int) (a2 : List UInt8) (a3 : V) : Option ((List (Int × (Bool × (Int × (List UInt8 × (List UInt8 × (Int × (Int × Unit))))))) × (List Int × (List Int × Unit)))) :=
  (match F61 n a0 a1 (a3.kind, (a3.b, (a3.n, (a3.s, (a2, (0, (0, ()))))))) with
  | some r1 =>
  F44l0 self n n r1.2 0 a3.kind a3.b a3.n a3.s a3.names a3.kids r1.1.1 r1.1.2.1 r1.1.2.2.1
  | none => none)

def F44 : Nat → (List (Int × (Bool × (Int × (List UInt8 × (List UInt8 × (Int × (Int × Unit))))))) × (List Int × (List Int × Unit))) → Int → List UInt8 → V → Option ((List (Int × (Bool × (Int × (List UInt8 × (List UInt8 × (Int × (Int × Unit))))))) × (List Int × (List Int × Unit))))
  | 0, _, _, _, _ => none
  | n + 1, a0, a1, a2, a3 => F44B (F44 n) n a0 a1 a2 a3

noncomputable def lay44 : Lay := layOf layL [(44, .io [.box (.pair (.vec 81 (.pair (.int .i64) (.pair .bool (.pair (.int .i64) (.pair .str (.pair .str (.pair (.int .i64) (.pair (.int .i64) .unit)))))))) (.pair (.vec 3 (.int .i64)) (.pair (.vec 3 (.int .i64)) .unit))), .val (.int .i64), .val .str, .val .value] []), (61, .io [.box (.pair (.vec 81 (.pair (.int .i64) (.pair .bool (.pair (.int .i64) (.pair .str (.pair .str (.pair (.int .i64) (.pair (.int .i64) .unit)))))))) (.pair (.vec 3 (.int .i64)) (.pair (.vec 3 (.int .i64)) .unit))), .val (.int .i64), .val (.pair (.int .i64) (.pair .bool (.pair (.int .i64) (.pair .str (.pair .str (.pair (.int .i64) (.pair (.int .i64) .unit)))))))] [.val (.int .i64)])]
theorem lay44_ok : LayOK Tryd.prog lay44 := layOf_ok layAll (by
  intro p hp
  simp only [List.mem_cons, List.not_mem_nil, or_false] at hp
  rcases hp with rfl | rfl
  · exact trivial
  · exact trivial) layEq

noncomputable def c44 : Code := Tryd.f44.body.getD .skip

noncomputable def G44 (self : (List (Int × (Bool × (Int × (List UInt8 × (List UInt8 × (Int × (Int × Unit))))))) × (List Int × (List Int × Unit))) → Int → List UInt8 → V → Option ((List (Int × (Bool × (Int × (List UInt8 × (List UInt8 × (Int × (Int × Unit))))))) × (List Int × (List Int × Unit))))) (n : Nat) : Ctx (Res [.pair (.slice (.pair (.int .i64) (.pair .bool (.pair (.int .i64) (.pair .str (.pair .str (.pair (.int .i64) (.pair (.int .i64) .unit)))))))) (.pair (.slice (.int .i64)) (.pair (.slice (.int .i64)) .unit))]) := entIo 44 [.pair (.slice (.pair (.int .i64) (.pair .bool (.pair (.int .i64) (.pair .str (.pair .str (.pair (.int .i64) (.pair (.int .i64) .unit)))))))) (.pair (.slice (.int .i64)) (.pair (.slice (.int .i64)) .unit)), .int .i64, .str, .value] [.pair (.slice (.pair (.int .i64) (.pair .bool (.pair (.int .i64) (.pair .str (.pair .str (.pair (.int .i64) (.pair (.int .i64) .unit)))))))) (.pair (.slice (.int .i64)) (.pair (.slice (.int .i64)) .unit))] (fun x => self x.1 x.2.1 x.2.2.1 x.2.2.2) (entIo 61 [.pair (.slice (.pair (.int .i64) (.pair .bool (.pair (.int .i64) (.pair .str (.pair .str (.pair (.int .i64) (.pair (.int .i64) .unit)))))))) (.pair (.slice (.int .i64)) (.pair (.slice (.int .i64)) .unit)), .int .i64, .pair (.int .i64) (.pair .bool (.pair (.int .i64) (.pair .str (.pair .str (.pair (.int .i64) (.pair (.int .i64) .unit))))))] [.pair (.slice (.pair (.int .i64) (.pair .bool (.pair (.int .i64) (.pair .str (.pair .str (.pair (.int .i64) (.pair (.int .i64) .unit)))))))) (.pair (.slice (.int .i64)) (.pair (.slice (.int .i64)) .unit)), .int .i64] (fun x => F61 n x.1 x.2.1 x.2.2) (noFns))

theorem GO44 (self : (List (Int × (Bool × (Int × (List UInt8 × (List UInt8 × (Int × (Int × Unit))))))) × (List Int × (List Int × Unit))) → Int → List UInt8 → V → Option ((List (Int × (Bool × (Int × (List UInt8 × (List UInt8 × (Int × (Int × Unit))))))) × (List Int × (List Int × Unit))))) (hs : ToldIo Tryd.prog 44 [.box (.pair (.vec 81 (.pair (.int .i64) (.pair .bool (.pair (.int .i64) (.pair .str (.pair .str (.pair (.int .i64) (.pair (.int .i64) .unit)))))))) (.pair (.vec 3 (.int .i64)) (.pair (.vec 3 (.int .i64)) .unit))), .val (.int .i64), .val .str, .val .value] [] [.pair (.slice (.pair (.int .i64) (.pair .bool (.pair (.int .i64) (.pair .str (.pair .str (.pair (.int .i64) (.pair (.int .i64) .unit)))))))) (.pair (.slice (.int .i64)) (.pair (.slice (.int .i64)) .unit)), .int .i64, .str, .value] [.pair (.slice (.pair (.int .i64) (.pair .bool (.pair (.int .i64) (.pair .str (.pair .str (.pair (.int .i64) (.pair (.int .i64) .unit)))))))) (.pair (.slice (.int .i64)) (.pair (.slice (.int .i64)) .unit))] (fun x => self x.1 x.2.1 x.2.2.1 x.2.2.2)) (n : Nat) : CtxOK Tryd.prog lay44 (G44 self n) := ent_okIo (ps := [.box (.pair (.vec 81 (.pair (.int .i64) (.pair .bool (.pair (.int .i64) (.pair .str (.pair .str (.pair (.int .i64) (.pair (.int .i64) .unit)))))))) (.pair (.vec 3 (.int .i64)) (.pair (.vec 3 (.int .i64)) .unit))), .val (.int .i64), .val .str, .val .value]) (rss := []) hs (fun _ _ h => h) (ent_okIo (ps := [.box (.pair (.vec 81 (.pair (.int .i64) (.pair .bool (.pair (.int .i64) (.pair .str (.pair .str (.pair (.int .i64) (.pair (.int .i64) .unit)))))))) (.pair (.vec 3 (.int .i64)) (.pair (.vec 3 (.int .i64)) .unit))), .val (.int .i64), .val (.pair (.int .i64) (.pair .bool (.pair (.int .i64) (.pair .str (.pair .str (.pair (.int .i64) (.pair (.int .i64) .unit)))))))]) (rss := [.val (.int .i64)]) (T61 n) (fun _ _ h => h) (noFns_ok))

noncomputable def P44 (self : (List (Int × (Bool × (Int × (List UInt8 × (List UInt8 × (Int × (Int × Unit))))))) × (List Int × (List Int × Unit))) → Int → List UInt8 → V → Option ((List (Int × (Bool × (Int × (List UInt8 × (List UInt8 × (Int × (Int × Unit))))))) × (List Int × (List Int × Unit))))) (n : Nat) : Pl (Res [.pair (.slice (.pair (.int .i64) (.pair .bool (.pair (.int .i64) (.pair .str (.pair .str (.pair (.int .i64) (.pair (.int .i64) .unit)))))))) (.pair (.slice (.int .i64)) (.pair (.slice (.int .i64)) .unit))]) :=
  (.two .leaf (.two .leaf (.two .leaf (.one (.loop [.ptr (.tmp 0) 100000 0, .ptr (.tmp 7) 7 0, .val (.tmp 8) (.int .i64), .val (.tmp 9) (.int .i64), .val (.cell 7 0) (.int .i64), .val (.cell 7 1) .bool, .val (.cell 7 2) (.int .i64), .val (.cell 7 3) .str, .val (.cell 7 4) (.slice .str), .val (.cell 7 5) (.slice .value), .vec (.cell 100000 0) 20000000 81 (.pair (.int .i64) (.pair .bool (.pair (.int .i64) (.pair .str (.pair .str (.pair (.int .i64) (.pair (.int .i64) .unit))))))), .vec (.cell 100000 1) 20000001 3 (.int .i64), .vec (.cell 100000 2) 20000002 3 (.int .i64), .ptr (.sv 0) 100000 0, .box 7 6, .box 100000 3] n (fun m x => F44l0 self n m x.2.2.1 x.2.2.2.1 x.2.2.2.2.1 x.2.2.2.2.2.1 x.2.2.2.2.2.2.1 x.2.2.2.2.2.2.2.1 x.2.2.2.2.2.2.2.2.1 x.2.2.2.2.2.2.2.2.2.1 x.2.2.2.2.2.2.2.2.2.2.1 x.2.2.2.2.2.2.2.2.2.2.2.1 x.2.2.2.2.2.2.2.2.2.2.2.2.1) (fun _ => .leaf))))))

theorem K44 (self : (List (Int × (Bool × (Int × (List UInt8 × (List UInt8 × (Int × (Int × Unit))))))) × (List Int × (List Int × Unit))) → Int → List UInt8 → V → Option ((List (Int × (Bool × (Int × (List UInt8 × (List UInt8 × (Int × (Int × Unit))))))) × (List Int × (List Int × Unit))))) (n : Nat) : PlOK (G44 self n) noInl lay44 50 (P44 self n) c44 (fnK lay44 [] [.box (.pair (.vec 81 (.pair (.int .i64) (.pair .bool (.pair (.int .i64) (.pair .str (.pair .str (.pair (.int .i64) (.pair (.int .i64) .unit)))))))) (.pair (.vec 3 (.int .i64)) (.pair (.vec 3 (.int .i64)) .unit))), .val (.int .i64), .val .str, .val .value] [] [.pair (.slice (.pair (.int .i64) (.pair .bool (.pair (.int .i64) (.pair .str (.pair .str (.pair (.int .i64) (.pair (.int .i64) .unit)))))))) (.pair (.slice (.int .i64)) (.pair (.slice (.int .i64)) .unit))]) :=
  ⟨trivial, ⟨trivial, ⟨trivial, ⟨by kernel_rfl, fun x => by kernel_rfl, fun m => ⟨fun x => by kernel_rfl, trivial⟩⟩⟩⟩⟩

theorem E44 (self : (List (Int × (Bool × (Int × (List UInt8 × (List UInt8 × (Int × (Int × Unit))))))) × (List Int × (List Int × Unit))) → Int → List UInt8 → V → Option ((List (Int × (Bool × (Int × (List UInt8 × (List UInt8 × (Int × (Int × Unit))))))) × (List Int × (List Int × Unit))))) (n : Nat) (a0 : (List (Int × (Bool × (Int × (List UInt8 × (List UInt8 × (Int × (Int × Unit))))))) × (List Int × (List Int × Unit)))) (a1 : Int) (a2 : List UInt8) (a3 : V) : F44B self n a0 a1 a2 a3 = fnE [.box (.pair (.vec 81 (.pair (.int .i64) (.pair .bool (.pair (.int .i64) (.pair .str (.pair .str (.pair (.int .i64) (.pair (.int .i64) .unit)))))))) (.pair (.vec 3 (.int .i64)) (.pair (.vec 3 (.int .i64)) .unit))), .val (.int .i64), .val .str, .val .value] (argDs [.pair (.slice (.pair (.int .i64) (.pair .bool (.pair (.int .i64) (.pair .str (.pair .str (.pair (.int .i64) (.pair (.int .i64) .unit)))))))) (.pair (.slice (.int .i64)) (.pair (.slice (.int .i64)) .unit)), .int .i64, .str, .value] (a0, a1, a2, a3)) (fun st => ev (G44 self n) noInl lay44 50 c44 (P44 self n) st (fnK lay44 [] [.box (.pair (.vec 81 (.pair (.int .i64) (.pair .bool (.pair (.int .i64) (.pair .str (.pair .str (.pair (.int .i64) (.pair (.int .i64) .unit)))))))) (.pair (.vec 3 (.int .i64)) (.pair (.vec 3 (.int .i64)) .unit))), .val (.int .i64), .val .str, .val .value] [] [.pair (.slice (.pair (.int .i64) (.pair .bool (.pair (.int .i64) (.pair .str (.pair .str (.pair (.int .i64) (.pair (.int .i64) .unit)))))))) (.pair (.slice (.int .i64)) (.pair (.slice (.int .i64)) .unit))])) := by kernel_rfl

theorem TB44 (self : (List (Int × (Bool × (Int × (List UInt8 × (List UInt8 × (Int × (Int × Unit))))))) × (List Int × (List Int × Unit))) → Int → List UInt8 → V → Option ((List (Int × (Bool × (Int × (List UInt8 × (List UInt8 × (Int × (Int × Unit))))))) × (List Int × (List Int × Unit))))) (hs : ToldIo Tryd.prog 44 [.box (.pair (.vec 81 (.pair (.int .i64) (.pair .bool (.pair (.int .i64) (.pair .str (.pair .str (.pair (.int .i64) (.pair (.int .i64) .unit)))))))) (.pair (.vec 3 (.int .i64)) (.pair (.vec 3 (.int .i64)) .unit))), .val (.int .i64), .val .str, .val .value] [] [.pair (.slice (.pair (.int .i64) (.pair .bool (.pair (.int .i64) (.pair .str (.pair .str (.pair (.int .i64) (.pair (.int .i64) .unit)))))))) (.pair (.slice (.int .i64)) (.pair (.slice (.int .i64)) .unit)), .int .i64, .str, .value] [.pair (.slice (.pair (.int .i64) (.pair .bool (.pair (.int .i64) (.pair .str (.pair .str (.pair (.int .i64) (.pair (.int .i64) .unit)))))))) (.pair (.slice (.int .i64)) (.pair (.slice (.int .i64)) .unit))] (fun x => self x.1 x.2.1 x.2.2.1 x.2.2.2)) (n : Nat) : ToldIo Tryd.prog 44 [.box (.pair (.vec 81 (.pair (.int .i64) (.pair .bool (.pair (.int .i64) (.pair .str (.pair .str (.pair (.int .i64) (.pair (.int .i64) .unit)))))))) (.pair (.vec 3 (.int .i64)) (.pair (.vec 3 (.int .i64)) .unit))), .val (.int .i64), .val .str, .val .value] [] [.pair (.slice (.pair (.int .i64) (.pair .bool (.pair (.int .i64) (.pair .str (.pair .str (.pair (.int .i64) (.pair (.int .i64) .unit)))))))) (.pair (.slice (.int .i64)) (.pair (.slice (.int .i64)) .unit)), .int .i64, .str, .value] [.pair (.slice (.pair (.int .i64) (.pair .bool (.pair (.int .i64) (.pair .str (.pair .str (.pair (.int .i64) (.pair (.int .i64) .unit)))))))) (.pair (.slice (.int .i64)) (.pair (.slice (.int .i64)) .unit))] (fun x => F44B self n x.1 x.2.1 x.2.2.1 x.2.2.2) := by
  rintro ⟨a0, a1, a2, a3⟩ r h
  exact fn_sound lay44_ok mixed (rvs := []) (by kernel_rfl : Tryd.prog.funcs[44]? = some Tryd.f44) (by kernel_rfl : Tryd.f44.body = some c44) (by kernel_rfl) (by kernel_rfl) (by kernel_rfl) (GO44 self hs n) noInl_ok (K44 self n) ((E44 self n a0 a1 a2 a3).symm.trans h)

theorem T44 : ∀ n : Nat, ToldIo Tryd.prog 44 [.box (.pair (.vec 81 (.pair (.int .i64) (.pair .bool (.pair (.int .i64) (.pair .str (.pair .str (.pair (.int .i64) (.pair (.int .i64) .unit)))))))) (.pair (.vec 3 (.int .i64)) (.pair (.vec 3 (.int .i64)) .unit))), .val (.int .i64), .val .str, .val .value] [] [.pair (.slice (.pair (.int .i64) (.pair .bool (.pair (.int .i64) (.pair .str (.pair .str (.pair (.int .i64) (.pair (.int .i64) .unit)))))))) (.pair (.slice (.int .i64)) (.pair (.slice (.int .i64)) .unit)), .int .i64, .str, .value] [.pair (.slice (.pair (.int .i64) (.pair .bool (.pair (.int .i64) (.pair .str (.pair .str (.pair (.int .i64) (.pair (.int .i64) .unit)))))))) (.pair (.slice (.int .i64)) (.pair (.slice (.int .i64)) .unit))] (fun x => F44 n x.1 x.2.1 x.2.2.1 x.2.2.2)
  | 0 => fun _ _ h => by cases h
  | n + 1 => TB44 (F44 n) (T44 n) n

/-! ### orthoepy/orthoepylaw18.Make -/

def F25 (n : Nat) (a0 : V) : Option ((Option (List ((Int × (Bool × (Int × (List UInt8 × (List UInt8 × (Int × (Int × Unit))))))) × (Int × (Int × Unit))) × Unit))) :=
  (match F42 n with
  | some r1 =>
  (match F43 n r1 (-1) ([] : List UInt8) (V.mk a0.kind a0.b a0.n a0.s a0.names a0.kids) with
  | some r2 =>
  some (some r2)
  | none => none)
  | none => none)

noncomputable def lay25 : Lay := layOf layL [(42, .io [] [.box (.pair (.vec 92 (.pair (.pair (.int .i64) (.pair .bool (.pair (.int .i64) (.pair .str (.pair .str (.pair (.int .i64) (.pair (.int .i64) .unit))))))) (.pair (.int .i64) (.pair (.int .i64) .unit)))) .unit)]), (43, .io [.box (.pair (.vec 92 (.pair (.pair (.int .i64) (.pair .bool (.pair (.int .i64) (.pair .str (.pair .str (.pair (.int .i64) (.pair (.int .i64) .unit))))))) (.pair (.int .i64) (.pair (.int .i64) .unit)))) .unit), .val (.int .i64), .val .str, .val .value] [])]
theorem lay25_ok : LayOK Tryd.prog lay25 := layOf_ok layAll (by
  intro p hp
  simp only [List.mem_cons, List.not_mem_nil, or_false] at hp
  rcases hp with rfl | rfl
  · exact trivial
  · exact trivial) layEq

noncomputable def c25 : Code := Tryd.f25.body.getD .skip

noncomputable def G25 (n : Nat) : Ctx (Res [.ref (.pair (.slice (.pair (.pair (.int .i64) (.pair .bool (.pair (.int .i64) (.pair .str (.pair .str (.pair (.int .i64) (.pair (.int .i64) .unit))))))) (.pair (.int .i64) (.pair (.int .i64) .unit)))) .unit)]) := entIo 42 [] [.pair (.slice (.pair (.pair (.int .i64) (.pair .bool (.pair (.int .i64) (.pair .str (.pair .str (.pair (.int .i64) (.pair (.int .i64) .unit))))))) (.pair (.int .i64) (.pair (.int .i64) .unit)))) .unit] (fun x => F42 n ) (entIo 43 [.pair (.slice (.pair (.pair (.int .i64) (.pair .bool (.pair (.int .i64) (.pair .str (.pair .str (.pair (.int .i64) (.pair (.int .i64) .unit))))))) (.pair (.int .i64) (.pair (.int .i64) .unit)))) .unit, .int .i64, .str, .value] [.pair (.slice (.pair (.pair (.int .i64) (.pair .bool (.pair (.int .i64) (.pair .str (.pair .str (.pair (.int .i64) (.pair (.int .i64) .unit))))))) (.pair (.int .i64) (.pair (.int .i64) .unit)))) .unit] (fun x => F43 n x.1 x.2.1 x.2.2.1 x.2.2.2) (noFns))

theorem GO25 (n : Nat) : CtxOK Tryd.prog lay25 (G25 n) := ent_okIo (ps := []) (rss := [.box (.pair (.vec 92 (.pair (.pair (.int .i64) (.pair .bool (.pair (.int .i64) (.pair .str (.pair .str (.pair (.int .i64) (.pair (.int .i64) .unit))))))) (.pair (.int .i64) (.pair (.int .i64) .unit)))) .unit)]) (T42 n) (fun _ _ h => h) (ent_okIo (ps := [.box (.pair (.vec 92 (.pair (.pair (.int .i64) (.pair .bool (.pair (.int .i64) (.pair .str (.pair .str (.pair (.int .i64) (.pair (.int .i64) .unit))))))) (.pair (.int .i64) (.pair (.int .i64) .unit)))) .unit), .val (.int .i64), .val .str, .val .value]) (rss := []) (T43 n) (fun _ _ h => h) (noFns_ok))

noncomputable def P25 (n : Nat) : Pl (Res [.ref (.pair (.slice (.pair (.pair (.int .i64) (.pair .bool (.pair (.int .i64) (.pair .str (.pair .str (.pair (.int .i64) (.pair (.int .i64) .unit))))))) (.pair (.int .i64) (.pair (.int .i64) .unit)))) .unit)]) :=
  .leaf

theorem K25 (n : Nat) : PlOK (G25 n) noInl lay25 11 (P25 n) c25 (fnK lay25 [.tmp 2] [.val .value] [.val (.ref (.pair (.slice (.pair (.pair (.int .i64) (.pair .bool (.pair (.int .i64) (.pair .str (.pair .str (.pair (.int .i64) (.pair (.int .i64) .unit))))))) (.pair (.int .i64) (.pair (.int .i64) .unit)))) .unit))] [.ref (.pair (.slice (.pair (.pair (.int .i64) (.pair .bool (.pair (.int .i64) (.pair .str (.pair .str (.pair (.int .i64) (.pair (.int .i64) .unit))))))) (.pair (.int .i64) (.pair (.int .i64) .unit)))) .unit)]) :=
  trivial

theorem E25 (n : Nat) (a0 : V) : F25 n a0 = fnE [.val .value] (argDs [.value] (a0)) (fun st => ev (G25 n) noInl lay25 11 c25 (P25 n) st (fnK lay25 [.tmp 2] [.val .value] [.val (.ref (.pair (.slice (.pair (.pair (.int .i64) (.pair .bool (.pair (.int .i64) (.pair .str (.pair .str (.pair (.int .i64) (.pair (.int .i64) .unit))))))) (.pair (.int .i64) (.pair (.int .i64) .unit)))) .unit))] [.ref (.pair (.slice (.pair (.pair (.int .i64) (.pair .bool (.pair (.int .i64) (.pair .str (.pair .str (.pair (.int .i64) (.pair (.int .i64) .unit))))))) (.pair (.int .i64) (.pair (.int .i64) .unit)))) .unit)])) := by kernel_rfl

theorem T25 (n : Nat) : Told Tryd.prog 25 [.value] [.ref (.pair (.slice (.pair (.pair (.int .i64) (.pair .bool (.pair (.int .i64) (.pair .str (.pair .str (.pair (.int .i64) (.pair (.int .i64) .unit))))))) (.pair (.int .i64) (.pair (.int .i64) .unit)))) .unit)] (fun x => F25 n x) := by
  rintro a0 r h
  exact calls_plain (fn_sound lay25_ok mixed (rvs := [.tmp 2]) (by kernel_rfl : Tryd.prog.funcs[25]? = some Tryd.f25) (by kernel_rfl : Tryd.f25.body = some c25) (by kernel_rfl) (by kernel_rfl) (by kernel_rfl) (GO25 n) noInl_ok (K25 n) ((E25 n a0).symm.trans h)) rfl rfl rfl rfl

/-! ### orthoepy/orthoepyref20.Make -/

def F26 (n : Nat) (a0 : V) : Option ((Option (List (Int × (Bool × (Int × (List UInt8 × (List UInt8 × (Int × (Int × Unit))))))) × (List Int × (List Int × Unit))))) :=
  (match F44 n (([] : List (Int × (Bool × (Int × (List UInt8 × (List UInt8 × (Int × (Int × Unit)))))))), (([] : List Int), (([] : List Int), ()))) (-1) ([] : List UInt8) (V.mk a0.kind a0.b a0.n a0.s a0.names a0.kids) with
  | some r1 =>
  some (some r1)
  | none => none)

noncomputable def lay26 : Lay := layOf layL [(44, .io [.box (.pair (.vec 81 (.pair (.int .i64) (.pair .bool (.pair (.int .i64) (.pair .str (.pair .str (.pair (.int .i64) (.pair (.int .i64) .unit)))))))) (.pair (.vec 3 (.int .i64)) (.pair (.vec 3 (.int .i64)) .unit))), .val (.int .i64), .val .str, .val .value] [])]
theorem lay26_ok : LayOK Tryd.prog lay26 := layOf_ok layAll (by
  intro p hp
  simp only [List.mem_cons, List.not_mem_nil, or_false] at hp
  rcases hp with rfl
  · exact trivial) layEq

noncomputable def c26 : Code := Tryd.f26.body.getD .skip

noncomputable def G26 (n : Nat) : Ctx (Res [.ref (.pair (.slice (.pair (.int .i64) (.pair .bool (.pair (.int .i64) (.pair .str (.pair .str (.pair (.int .i64) (.pair (.int .i64) .unit)))))))) (.pair (.slice (.int .i64)) (.pair (.slice (.int .i64)) .unit)))]) := entIo 44 [.pair (.slice (.pair (.int .i64) (.pair .bool (.pair (.int .i64) (.pair .str (.pair .str (.pair (.int .i64) (.pair (.int .i64) .unit)))))))) (.pair (.slice (.int .i64)) (.pair (.slice (.int .i64)) .unit)), .int .i64, .str, .value] [.pair (.slice (.pair (.int .i64) (.pair .bool (.pair (.int .i64) (.pair .str (.pair .str (.pair (.int .i64) (.pair (.int .i64) .unit)))))))) (.pair (.slice (.int .i64)) (.pair (.slice (.int .i64)) .unit))] (fun x => F44 n x.1 x.2.1 x.2.2.1 x.2.2.2) (noFns)

theorem GO26 (n : Nat) : CtxOK Tryd.prog lay26 (G26 n) := ent_okIo (ps := [.box (.pair (.vec 81 (.pair (.int .i64) (.pair .bool (.pair (.int .i64) (.pair .str (.pair .str (.pair (.int .i64) (.pair (.int .i64) .unit)))))))) (.pair (.vec 3 (.int .i64)) (.pair (.vec 3 (.int .i64)) .unit))), .val (.int .i64), .val .str, .val .value]) (rss := []) (T44 n) (fun _ _ h => h) (noFns_ok)

noncomputable def P26 (n : Nat) : Pl (Res [.ref (.pair (.slice (.pair (.int .i64) (.pair .bool (.pair (.int .i64) (.pair .str (.pair .str (.pair (.int .i64) (.pair (.int .i64) .unit)))))))) (.pair (.slice (.int .i64)) (.pair (.slice (.int .i64)) .unit)))]) :=
  .leaf

theorem K26 (n : Nat) : PlOK (G26 n) noInl lay26 10 (P26 n) c26 (fnK lay26 [.tmp 2] [.val .value] [.val (.ref (.pair (.slice (.pair (.int .i64) (.pair .bool (.pair (.int .i64) (.pair .str (.pair .str (.pair (.int .i64) (.pair (.int .i64) .unit)))))))) (.pair (.slice (.int .i64)) (.pair (.slice (.int .i64)) .unit))))] [.ref (.pair (.slice (.pair (.int .i64) (.pair .bool (.pair (.int .i64) (.pair .str (.pair .str (.pair (.int .i64) (.pair (.int .i64) .unit)))))))) (.pair (.slice (.int .i64)) (.pair (.slice (.int .i64)) .unit)))]) :=
  trivial

theorem E26 (n : Nat) (a0 : V) : F26 n a0 = fnE [.val .value] (argDs [.value] (a0)) (fun st => ev (G26 n) noInl lay26 10 c26 (P26 n) st (fnK lay26 [.tmp 2] [.val .value] [.val (.ref (.pair (.slice (.pair (.int .i64) (.pair .bool (.pair (.int .i64) (.pair .str (.pair .str (.pair (.int .i64) (.pair (.int .i64) .unit)))))))) (.pair (.slice (.int .i64)) (.pair (.slice (.int .i64)) .unit))))] [.ref (.pair (.slice (.pair (.int .i64) (.pair .bool (.pair (.int .i64) (.pair .str (.pair .str (.pair (.int .i64) (.pair (.int .i64) .unit)))))))) (.pair (.slice (.int .i64)) (.pair (.slice (.int .i64)) .unit)))])) := by kernel_rfl

theorem T26 (n : Nat) : Told Tryd.prog 26 [.value] [.ref (.pair (.slice (.pair (.int .i64) (.pair .bool (.pair (.int .i64) (.pair .str (.pair .str (.pair (.int .i64) (.pair (.int .i64) .unit)))))))) (.pair (.slice (.int .i64)) (.pair (.slice (.int .i64)) .unit)))] (fun x => F26 n x) := by
  rintro a0 r h
  exact calls_plain (fn_sound lay26_ok mixed (rvs := [.tmp 2]) (by kernel_rfl : Tryd.prog.funcs[26]? = some Tryd.f26) (by kernel_rfl : Tryd.f26.body = some c26) (by kernel_rfl) (by kernel_rfl) (by kernel_rfl) (GO26 n) noInl_ok (K26 n) ((E26 n a0).symm.trans h)) rfl rfl rfl rfl

/-! ### orthoepy/orthoepyref25.Eval -/

def F29l0F (n : Nat) (rF29l0 : Option (List (Int × (Bool × (Int × (List UInt8 × (List UInt8 × (Int × (Int × Unit))))))) × (List Int × (List Int × Unit))) → List (List UInt8) → Int → Int → Option (Int × Int)) (t0 : Option (List (Int × (Bool × (Int × (List UInt8 × (List UInt8 × (Int × (Int × Unit))))))) × (List Int × (List Int × Unit)))) (t1 : List (List UInt8)) (t6 : Int) (t7 : Int) : Option (Int × Int) :=
  (bif (decide (t7 < ((t1).length : Int))) then
    (match F48 n t0 t6 with
    | some r1 =>
    (bif inB t7 (t1).length then
    (match F49 n t0 t6 ((t1).getD (Int.toNat t7) (Ty.dflt .str)) with
    | some r2 =>
    (bif inB t7 (t1).length then
    (match F16 n ((t1).getD (Int.toNat t7) (Ty.dflt .str)) with
    | some r3 =>
    (match F50 n t0 t6 with
    | some r4 =>
    (bif (r1.1.1 == 5) then
      (bif r3.2 then
        (bif (decide (r3.1 < ((r4).length : Int))) then
          (bif inB r3.1 (r4).length then
          (bif (decide (((r4).getD (Int.toNat r3.1) (Ty.dflt (.int .i64))) < 0)) then
            some ((-1), t7)
          else
            rF29l0 t0 t1 ((r4).getD (Int.toNat r3.1) (Ty.dflt (.int .i64))) (IntKind.wrap .i64 (t7 + 1)))
          else none)
        else
          (bif (decide (r2 < 0)) then
            some ((-1), t7)
          else
            rF29l0 t0 t1 r2 (IntKind.wrap .i64 (t7 + 1))))
      else
        (bif (decide (r2 < 0)) then
          some ((-1), t7)
        else
          rF29l0 t0 t1 r2 (IntKind.wrap .i64 (t7 + 1))))
    else
      (bif (decide (r2 < 0)) then
        some ((-1), t7)
      else
        rF29l0 t0 t1 r2 (IntKind.wrap .i64 (t7 + 1))))
    | none => none)
    | none => none)
    else none)
    | none => none)
    else none)
    | none => none)
  else
    some (t6, ((t1).length : Int)))
def F29l0 (n : Nat) : Nat → Option (List (Int × (Bool × (Int × (List UInt8 × (List UInt8 × (Int × (Int × Unit))))))) × (List Int × (List Int × Unit))) → List (List UInt8) → Int → Int → Option (Int × Int)
  | 0, _, _, _, _ => none
  | m + 1, t0, t1, t6, t7 => F29l0F n (F29l0 n m) t0 t1 t6 t7

def F29 (n : Nat) (a0 : Option (List (Int × (Bool × (Int × (List UInt8 × (List UInt8 × (Int × (Int × Unit))))))) × (List Int × (List Int × Unit)))) (a1 : List (List UInt8)) : Option (Int × Int) :=
  (bif (Option.isSome a0) then
  (bif ((((Option.getD a0 (Ty.dflt (.pair (.slice (.pair (.int .i64) (.pair .bool (.pair (.int .i64) (.pair .str (.pair .str (.pair (.int .i64) (.pair (.int .i64) .unit)))))))) (.pair (.slice (.int .i64)) (.pair (.slice (.int .i64)) .unit))))).1).length : Int) == 0) then
    some ((-1), 0)
  else
    F29l0 n n a0 a1 0 0)
  else none)

noncomputable def c29 : Code := Tryd.f29.body.getD .skip

noncomputable def G29 (n : Nat) : Ctx (Res [.int .i64, .int .i64]) := ent 16 [.str] [.int .i64, .bool] (fun x => F16 n x) (ent 48 [.ref (.pair (.slice (.pair (.int .i64) (.pair .bool (.pair (.int .i64) (.pair .str (.pair .str (.pair (.int .i64) (.pair (.int .i64) .unit)))))))) (.pair (.slice (.int .i64)) (.pair (.slice (.int .i64)) .unit))), .int .i64] [.pair (.int .i64) (.pair .bool (.pair (.int .i64) (.pair .str (.pair .str (.pair (.int .i64) (.pair (.int .i64) .unit)))))), .bool] (fun x => F48 n x.1 x.2) (ent 49 [.ref (.pair (.slice (.pair (.int .i64) (.pair .bool (.pair (.int .i64) (.pair .str (.pair .str (.pair (.int .i64) (.pair (.int .i64) .unit)))))))) (.pair (.slice (.int .i64)) (.pair (.slice (.int .i64)) .unit))), .int .i64, .str] [.int .i64] (fun x => F49 n x.1 x.2.1 x.2.2) (ent 50 [.ref (.pair (.slice (.pair (.int .i64) (.pair .bool (.pair (.int .i64) (.pair .str (.pair .str (.pair (.int .i64) (.pair (.int .i64) .unit)))))))) (.pair (.slice (.int .i64)) (.pair (.slice (.int .i64)) .unit))), .int .i64] [.slice (.int .i64)] (fun x => F50 n x.1 x.2) (noFns))))

theorem GO29 (n : Nat) : CtxOK Tryd.prog lay0 (G29 n) := ent_ok (T16 n) (fun _ _ h => h) (ent_ok (T48 n) (fun _ _ h => h) (ent_ok (T49 n) (fun _ _ h => h) (ent_ok (T50 n) (fun _ _ h => h) (noFns_ok))))

noncomputable def P29 (n : Nat) : Pl (Res [.int .i64, .int .i64]) :=
  (.two .leaf (.two .leaf (.two .leaf (.two (.two .leaf (.one (.loop [.val (.tmp 0) (.ref (.pair (.slice (.pair (.int .i64) (.pair .bool (.pair (.int .i64) (.pair .str (.pair .str (.pair (.int .i64) (.pair (.int .i64) .unit)))))))) (.pair (.slice (.int .i64)) (.pair (.slice (.int .i64)) .unit)))), .val (.tmp 1) (.slice .str), .val (.tmp 6) (.int .i64), .val (.tmp 7) (.int .i64)] n (fun m x => F29l0 n m x.1 x.2.1 x.2.2.1 x.2.2.2.1) (fun _ => .leaf)))) .leaf))))

theorem K29 (n : Nat) : PlOK (G29 n) noInl lay0 73 (P29 n) c29 (fnK lay0 [.tmp 4, .tmp 5] [.val (.ref (.pair (.slice (.pair (.int .i64) (.pair .bool (.pair (.int .i64) (.pair .str (.pair .str (.pair (.int .i64) (.pair (.int .i64) .unit)))))))) (.pair (.slice (.int .i64)) (.pair (.slice (.int .i64)) .unit)))), .val (.slice .str)] [.val (.int .i64), .val (.int .i64)] [.int .i64, .int .i64]) :=
  ⟨trivial, ⟨trivial, ⟨trivial, ⟨⟨trivial, ⟨by kernel_rfl, fun x => by kernel_rfl, fun m => ⟨fun x => by kernel_rfl, trivial⟩⟩⟩, trivial⟩⟩⟩⟩

theorem E29 (n : Nat) (a0 : Option (List (Int × (Bool × (Int × (List UInt8 × (List UInt8 × (Int × (Int × Unit))))))) × (List Int × (List Int × Unit)))) (a1 : List (List UInt8)) : F29 n a0 a1 = fnE [.val (.ref (.pair (.slice (.pair (.int .i64) (.pair .bool (.pair (.int .i64) (.pair .str (.pair .str (.pair (.int .i64) (.pair (.int .i64) .unit)))))))) (.pair (.slice (.int .i64)) (.pair (.slice (.int .i64)) .unit)))), .val (.slice .str)] (argDs [.ref (.pair (.slice (.pair (.int .i64) (.pair .bool (.pair (.int .i64) (.pair .str (.pair .str (.pair (.int .i64) (.pair (.int .i64) .unit)))))))) (.pair (.slice (.int .i64)) (.pair (.slice (.int .i64)) .unit))), .slice .str] (a0, a1)) (fun st => ev (G29 n) noInl lay0 73 c29 (P29 n) st (fnK lay0 [.tmp 4, .tmp 5] [.val (.ref (.pair (.slice (.pair (.int .i64) (.pair .bool (.pair (.int .i64) (.pair .str (.pair .str (.pair (.int .i64) (.pair (.int .i64) .unit)))))))) (.pair (.slice (.int .i64)) (.pair (.slice (.int .i64)) .unit)))), .val (.slice .str)] [.val (.int .i64), .val (.int .i64)] [.int .i64, .int .i64])) := by kernel_rfl

theorem T29 (n : Nat) : Told Tryd.prog 29 [.ref (.pair (.slice (.pair (.int .i64) (.pair .bool (.pair (.int .i64) (.pair .str (.pair .str (.pair (.int .i64) (.pair (.int .i64) .unit)))))))) (.pair (.slice (.int .i64)) (.pair (.slice (.int .i64)) .unit))), .slice .str] [.int .i64, .int .i64] (fun x => F29 n x.1 x.2) := by
  rintro ⟨a0, a1⟩ r h
  exact calls_plain (fn_sound lay0_ok mixed (rvs := [.tmp 4, .tmp 5]) (by kernel_rfl : Tryd.prog.funcs[29]? = some Tryd.f29) (by kernel_rfl : Tryd.f29.body = some c29) (by kernel_rfl) (by kernel_rfl) (by kernel_rfl) (GO29 n) noInl_ok (K29 n) ((E29 n a0 a1).symm.trans h)) rfl rfl rfl rfl

end Go.Proofs.YtaeamjhgfhcjdaaDoor.Ab
