/- Functions of the program as Lean functions. Printed by wip/gen/gen3.py. -/
import Derived.Test.YtdkelhdlfeendaaGA
namespace Go.Proofs.Ytdkelhdlfeendaa.Ab
open Go Go.RowKit Go.Proofs
set_option maxRecDepth 100000
set_option maxHeartbeats 4000000
set_option linter.unusedVariables false

/-! ### (*orthoepy/orthoepyref17.Keys).Has -/

def F39l0F (n : Nat) (rF39l0 : Option (Option (List (Int × Int) × (List (Int × List Int) × (List (Int × Int) × (List (List Int × Int) × (List (Int × Int) × (Int × Unit)))))) × (List (List UInt8) × (List (List UInt8) × Unit))) → List UInt8 → Int → Option (Bool)) (t0 : Option (Option (List (Int × Int) × (List (Int × List Int) × (List (Int × Int) × (List (List Int × Int) × (List (Int × Int) × (Int × Unit)))))) × (List (List UInt8) × (List (List UInt8) × Unit)))) (t5 : List UInt8) (t6 : Int) : Option (Bool) :=
  (bif (Option.isSome t0) then
  (bif (decide (t6 < (((Option.getD t0 (Ty.dflt (.pair (.ref (.pair (.map (.int .i32) (.int .i64)) (.pair (.map (.int .i32) (.arr 2 (.int .i32))) (.pair (.map (.int .i32) (.int .i32)) (.pair (.map (.arr 2 (.int .i32)) (.int .i32)) (.pair (.map (.int .i32) (.int .i64)) (.pair (.int .i64) .unit))))))) (.pair (.slice .str) (.pair (.slice .str) .unit))))).2.2.1).length : Int))) then
    (bif (Option.isSome t0) then
    (bif inB t6 ((Option.getD t0 (Ty.dflt (.pair (.ref (.pair (.map (.int .i32) (.int .i64)) (.pair (.map (.int .i32) (.arr 2 (.int .i32))) (.pair (.map (.int .i32) (.int .i32)) (.pair (.map (.arr 2 (.int .i32)) (.int .i32)) (.pair (.map (.int .i32) (.int .i64)) (.pair (.int .i64) .unit))))))) (.pair (.slice .str) (.pair (.slice .str) .unit))))).2.2.1).length then
    (bif ((((Option.getD t0 (Ty.dflt (.pair (.ref (.pair (.map (.int .i32) (.int .i64)) (.pair (.map (.int .i32) (.arr 2 (.int .i32))) (.pair (.map (.int .i32) (.int .i32)) (.pair (.map (.arr 2 (.int .i32)) (.int .i32)) (.pair (.map (.int .i32) (.int .i64)) (.pair (.int .i64) .unit))))))) (.pair (.slice .str) (.pair (.slice .str) .unit))))).2.2.1).getD (Int.toNat t6) (Ty.dflt .str)) == t5) then
      some true
    else
      rF39l0 t0 t5 (IntKind.wrap .i64 (t6 + 1)))
    else none)
    else none)
  else
    some false)
  else none)
def F39l0 (n : Nat) : Nat → Option (Option (List (Int × Int) × (List (Int × List Int) × (List (Int × Int) × (List (List Int × Int) × (List (Int × Int) × (Int × Unit)))))) × (List (List UInt8) × (List (List UInt8) × Unit))) → List UInt8 → Int → Option (Bool)
  | 0, _, _, _ => none
  | m + 1, t0, t5, t6 => F39l0F n (F39l0 n m) t0 t5 t6

def F39 (n : Nat) (a0 : Option (Option (List (Int × Int) × (List (Int × List Int) × (List (Int × Int) × (List (List Int × Int) × (List (Int × Int) × (Int × Unit)))))) × (List (List UInt8) × (List (List UInt8) × Unit)))) (a1 : List UInt8) : Option (Bool) :=
  (bif (Option.isSome a0) then
  (match F40 n (Option.getD a0 (Ty.dflt (.pair (.ref (.pair (.map (.int .i32) (.int .i64)) (.pair (.map (.int .i32) (.arr 2 (.int .i32))) (.pair (.map (.int .i32) (.int .i32)) (.pair (.map (.arr 2 (.int .i32)) (.int .i32)) (.pair (.map (.int .i32) (.int .i64)) (.pair (.int .i64) .unit))))))) (.pair (.slice .str) (.pair (.slice .str) .unit))))).1 a1 with
  | some r1 =>
  F39l0 n n a0 r1 0
  | none => none)
  else none)

noncomputable def c39 : Code := Try.f39.body.getD .skip

noncomputable def G39 (n : Nat) : Ctx (Res [.bool]) := ent 40 [.ref (.pair (.map (.int .i32) (.int .i64)) (.pair (.map (.int .i32) (.arr 2 (.int .i32))) (.pair (.map (.int .i32) (.int .i32)) (.pair (.map (.arr 2 (.int .i32)) (.int .i32)) (.pair (.map (.int .i32) (.int .i64)) (.pair (.int .i64) .unit)))))), .str] [.str] (fun x => F40 n x.1 x.2) (noFns)

theorem GO39 (n : Nat) : CtxOK Try.prog lay0 (G39 n) := ent_ok (T40 n) (fun _ _ h => h) (noFns_ok)

noncomputable def P39 (n : Nat) : Pl (Res [.bool]) :=
  (.two .leaf (.two .leaf (.two (.two .leaf (.one (.loop [.val (.tmp 0) (.ref (.pair (.ref (.pair (.map (.int .i32) (.int .i64)) (.pair (.map (.int .i32) (.arr 2 (.int .i32))) (.pair (.map (.int .i32) (.int .i32)) (.pair (.map (.arr 2 (.int .i32)) (.int .i32)) (.pair (.map (.int .i32) (.int .i64)) (.pair (.int .i64) .unit))))))) (.pair (.slice .str) (.pair (.slice .str) .unit)))), .val (.tmp 5) .str, .val (.tmp 6) (.int .i64)] n (fun m x => F39l0 n m x.1 x.2.1 x.2.2.1) (fun _ => .leaf)))) .leaf)))

theorem K39 (n : Nat) : PlOK (G39 n) noInl lay0 31 (P39 n) c39 (fnK lay0 [.tmp 4] [.val (.ref (.pair (.ref (.pair (.map (.int .i32) (.int .i64)) (.pair (.map (.int .i32) (.arr 2 (.int .i32))) (.pair (.map (.int .i32) (.int .i32)) (.pair (.map (.arr 2 (.int .i32)) (.int .i32)) (.pair (.map (.int .i32) (.int .i64)) (.pair (.int .i64) .unit))))))) (.pair (.slice .str) (.pair (.slice .str) .unit)))), .val .str] [.val .bool] [.bool]) :=
  ⟨trivial, ⟨trivial, ⟨⟨trivial, ⟨by kernel_rfl, fun x => by kernel_rfl, fun m => ⟨fun x => by kernel_rfl, trivial⟩⟩⟩, trivial⟩⟩⟩

theorem E39 (n : Nat) (a0 : Option (Option (List (Int × Int) × (List (Int × List Int) × (List (Int × Int) × (List (List Int × Int) × (List (Int × Int) × (Int × Unit)))))) × (List (List UInt8) × (List (List UInt8) × Unit)))) (a1 : List UInt8) : F39 n a0 a1 = fnE [.val (.ref (.pair (.ref (.pair (.map (.int .i32) (.int .i64)) (.pair (.map (.int .i32) (.arr 2 (.int .i32))) (.pair (.map (.int .i32) (.int .i32)) (.pair (.map (.arr 2 (.int .i32)) (.int .i32)) (.pair (.map (.int .i32) (.int .i64)) (.pair (.int .i64) .unit))))))) (.pair (.slice .str) (.pair (.slice .str) .unit)))), .val .str] (argDs [.ref (.pair (.ref (.pair (.map (.int .i32) (.int .i64)) (.pair (.map (.int .i32) (.arr 2 (.int .i32))) (.pair (.map (.int .i32) (.int .i32)) (.pair (.map (.arr 2 (.int .i32)) (.int .i32)) (.pair (.map (.int .i32) (.int .i64)) (.pair (.int .i64) .unit))))))) (.pair (.slice .str) (.pair (.slice .str) .unit))), .str] (a0, a1)) (fun st => ev (G39 n) noInl lay0 31 c39 (P39 n) st (fnK lay0 [.tmp 4] [.val (.ref (.pair (.ref (.pair (.map (.int .i32) (.int .i64)) (.pair (.map (.int .i32) (.arr 2 (.int .i32))) (.pair (.map (.int .i32) (.int .i32)) (.pair (.map (.arr 2 (.int .i32)) (.int .i32)) (.pair (.map (.int .i32) (.int .i64)) (.pair (.int .i64) .unit))))))) (.pair (.slice .str) (.pair (.slice .str) .unit)))), .val .str] [.val .bool] [.bool])) := by kernel_rfl

theorem T39 (n : Nat) : Told Try.prog 39 [.ref (.pair (.ref (.pair (.map (.int .i32) (.int .i64)) (.pair (.map (.int .i32) (.arr 2 (.int .i32))) (.pair (.map (.int .i32) (.int .i32)) (.pair (.map (.arr 2 (.int .i32)) (.int .i32)) (.pair (.map (.int .i32) (.int .i64)) (.pair (.int .i64) .unit))))))) (.pair (.slice .str) (.pair (.slice .str) .unit))), .str] [.bool] (fun x => F39 n x.1 x.2) := by
  rintro ⟨a0, a1⟩ r h
  exact calls_plain (fn_sound lay0_ok mixed (rvs := [.tmp 4]) (by kernel_rfl : Try.prog.funcs[39]? = some Try.f39) (by kernel_rfl : Try.f39.body = some c39) (by kernel_rfl) (by kernel_rfl) (by kernel_rfl) (GO39 n) noInl_ok (K39 n) ((E39 n a0 a1).symm.trans h)) rfl rfl rfl rfl

/-! ### (*orthoepy/orthoepyref17.Keys).Add -/

def F36 (n : Nat) (a0 : (Option (List (Int × Int) × (List (Int × List Int) × (List (Int × Int) × (List (List Int × Int) × (List (Int × Int) × (Int × Unit)))))) × (List (List UInt8) × (List (List UInt8) × Unit)))) (a1 : List UInt8) : Option ((Option (List (Int × Int) × (List (Int × List Int) × (List (Int × Int) × (List (List Int × Int) × (List (Int × Int) × (Int × Unit)))))) × (List (List UInt8) × (List (List UInt8) × Unit))) × Bool) :=
  (match F39 n (some a0) a1 with
  | some r1 =>
  (bif r1 then
    some (a0, false)
  else
    (bif (decide (((a0.2.1).length + (([a1] : List (List UInt8))).length) * 16 ≤ maxRoom) && decide ((a0.2.1).length + (([a1] : List (List UInt8))).length ≤ maxRoom)) then
    (match F40 n a0.1 a1 with
    | some r2 =>
    (bif (decide (((a0.2.2.1).length + (([r2] : List (List UInt8))).length) * 16 ≤ maxRoom) && decide ((a0.2.2.1).length + (([r2] : List (List UInt8))).length ≤ maxRoom)) then
    some ((a0.1, ((a0.2.1 ++ ([a1] : List (List UInt8))), ((a0.2.2.1 ++ ([r2] : List (List UInt8))), ()))), true)
    else none)
    | none => none)
    else none))
  | none => none)

noncomputable def lay36 : Lay := layOf layL [(39, .borrow [.ref (.pair (.ref (.pair (.map (.int .i32) (.int .i64)) (.pair (.map (.int .i32) (.arr 2 (.int .i32))) (.pair (.map (.int .i32) (.int .i32)) (.pair (.map (.arr 2 (.int .i32)) (.int .i32)) (.pair (.map (.int .i32) (.int .i64)) (.pair (.int .i64) .unit))))))) (.pair (.slice .str) (.pair (.slice .str) .unit))), .str] false)]
theorem lay36_ok : LayOK Try.prog lay36 := layOf_ok layAll (by
  intro p hp
  simp only [List.mem_cons, List.not_mem_nil, or_false] at hp
  rcases hp with rfl
  · exact trivial) layEq layKeys

noncomputable def c36 : Code := Try.f36.body.getD .skip

noncomputable def G36 (n : Nat) : Ctx (Res [.pair (.ref (.pair (.map (.int .i32) (.int .i64)) (.pair (.map (.int .i32) (.arr 2 (.int .i32))) (.pair (.map (.int .i32) (.int .i32)) (.pair (.map (.arr 2 (.int .i32)) (.int .i32)) (.pair (.map (.int .i32) (.int .i64)) (.pair (.int .i64) .unit))))))) (.pair (.slice .str) (.pair (.slice .str) .unit)), .bool]) := ent 39 [.ref (.pair (.ref (.pair (.map (.int .i32) (.int .i64)) (.pair (.map (.int .i32) (.arr 2 (.int .i32))) (.pair (.map (.int .i32) (.int .i32)) (.pair (.map (.arr 2 (.int .i32)) (.int .i32)) (.pair (.map (.int .i32) (.int .i64)) (.pair (.int .i64) .unit))))))) (.pair (.slice .str) (.pair (.slice .str) .unit))), .str] [.bool] (fun x => F39 n x.1 x.2) (ent 40 [.ref (.pair (.map (.int .i32) (.int .i64)) (.pair (.map (.int .i32) (.arr 2 (.int .i32))) (.pair (.map (.int .i32) (.int .i32)) (.pair (.map (.arr 2 (.int .i32)) (.int .i32)) (.pair (.map (.int .i32) (.int .i64)) (.pair (.int .i64) .unit)))))), .str] [.str] (fun x => F40 n x.1 x.2) (noFns))

theorem GO36 (n : Nat) : CtxOK Try.prog lay36 (G36 n) := ent_ok (T39 n) (fun _ _ h => h) (ent_ok (T40 n) (fun _ _ h => h) (noFns_ok))

noncomputable def P36 (n : Nat) : Pl (Res [.pair (.ref (.pair (.map (.int .i32) (.int .i64)) (.pair (.map (.int .i32) (.arr 2 (.int .i32))) (.pair (.map (.int .i32) (.int .i32)) (.pair (.map (.arr 2 (.int .i32)) (.int .i32)) (.pair (.map (.int .i32) (.int .i64)) (.pair (.int .i64) .unit))))))) (.pair (.slice .str) (.pair (.slice .str) .unit)), .bool]) :=
  .leaf

theorem K36 (n : Nat) : PlOK (G36 n) noInl lay36 33 (P36 n) c36 (fnK lay36 [.tmp 4] [.box (.pair (.val (.ref (.pair (.map (.int .i32) (.int .i64)) (.pair (.map (.int .i32) (.arr 2 (.int .i32))) (.pair (.map (.int .i32) (.int .i32)) (.pair (.map (.arr 2 (.int .i32)) (.int .i32)) (.pair (.map (.int .i32) (.int .i64)) (.pair (.int .i64) .unit)))))))) (.pair (.vec 9 .str) (.pair (.vec 9 .str) .unit))), .val .str] [.val .bool] [.pair (.ref (.pair (.map (.int .i32) (.int .i64)) (.pair (.map (.int .i32) (.arr 2 (.int .i32))) (.pair (.map (.int .i32) (.int .i32)) (.pair (.map (.arr 2 (.int .i32)) (.int .i32)) (.pair (.map (.int .i32) (.int .i64)) (.pair (.int .i64) .unit))))))) (.pair (.slice .str) (.pair (.slice .str) .unit)), .bool]) :=
  trivial

theorem E36 (n : Nat) (a0 : (Option (List (Int × Int) × (List (Int × List Int) × (List (Int × Int) × (List (List Int × Int) × (List (Int × Int) × (Int × Unit)))))) × (List (List UInt8) × (List (List UInt8) × Unit)))) (a1 : List UInt8) : F36 n a0 a1 = fnE [.box (.pair (.val (.ref (.pair (.map (.int .i32) (.int .i64)) (.pair (.map (.int .i32) (.arr 2 (.int .i32))) (.pair (.map (.int .i32) (.int .i32)) (.pair (.map (.arr 2 (.int .i32)) (.int .i32)) (.pair (.map (.int .i32) (.int .i64)) (.pair (.int .i64) .unit)))))))) (.pair (.vec 9 .str) (.pair (.vec 9 .str) .unit))), .val .str] (argDs [.pair (.ref (.pair (.map (.int .i32) (.int .i64)) (.pair (.map (.int .i32) (.arr 2 (.int .i32))) (.pair (.map (.int .i32) (.int .i32)) (.pair (.map (.arr 2 (.int .i32)) (.int .i32)) (.pair (.map (.int .i32) (.int .i64)) (.pair (.int .i64) .unit))))))) (.pair (.slice .str) (.pair (.slice .str) .unit)), .str] (a0, a1)) (fun st => ev (G36 n) noInl lay36 33 c36 (P36 n) st (fnK lay36 [.tmp 4] [.box (.pair (.val (.ref (.pair (.map (.int .i32) (.int .i64)) (.pair (.map (.int .i32) (.arr 2 (.int .i32))) (.pair (.map (.int .i32) (.int .i32)) (.pair (.map (.arr 2 (.int .i32)) (.int .i32)) (.pair (.map (.int .i32) (.int .i64)) (.pair (.int .i64) .unit)))))))) (.pair (.vec 9 .str) (.pair (.vec 9 .str) .unit))), .val .str] [.val .bool] [.pair (.ref (.pair (.map (.int .i32) (.int .i64)) (.pair (.map (.int .i32) (.arr 2 (.int .i32))) (.pair (.map (.int .i32) (.int .i32)) (.pair (.map (.arr 2 (.int .i32)) (.int .i32)) (.pair (.map (.int .i32) (.int .i64)) (.pair (.int .i64) .unit))))))) (.pair (.slice .str) (.pair (.slice .str) .unit)), .bool])) := by kernel_rfl

theorem T36 (n : Nat) : ToldIo Try.prog 36 [.box (.pair (.val (.ref (.pair (.map (.int .i32) (.int .i64)) (.pair (.map (.int .i32) (.arr 2 (.int .i32))) (.pair (.map (.int .i32) (.int .i32)) (.pair (.map (.arr 2 (.int .i32)) (.int .i32)) (.pair (.map (.int .i32) (.int .i64)) (.pair (.int .i64) .unit)))))))) (.pair (.vec 9 .str) (.pair (.vec 9 .str) .unit))), .val .str] [.val .bool] [.pair (.ref (.pair (.map (.int .i32) (.int .i64)) (.pair (.map (.int .i32) (.arr 2 (.int .i32))) (.pair (.map (.int .i32) (.int .i32)) (.pair (.map (.arr 2 (.int .i32)) (.int .i32)) (.pair (.map (.int .i32) (.int .i64)) (.pair (.int .i64) .unit))))))) (.pair (.slice .str) (.pair (.slice .str) .unit)), .str] [.pair (.ref (.pair (.map (.int .i32) (.int .i64)) (.pair (.map (.int .i32) (.arr 2 (.int .i32))) (.pair (.map (.int .i32) (.int .i32)) (.pair (.map (.arr 2 (.int .i32)) (.int .i32)) (.pair (.map (.int .i32) (.int .i64)) (.pair (.int .i64) .unit))))))) (.pair (.slice .str) (.pair (.slice .str) .unit)), .bool] (fun x => F36 n x.1 x.2) := by
  rintro ⟨a0, a1⟩ r h
  exact fn_sound lay36_ok mixed (rvs := [.tmp 4]) (by kernel_rfl : Try.prog.funcs[36]? = some Try.f36) (by kernel_rfl : Try.f36.body = some c36) (by kernel_rfl) (by kernel_rfl) (by kernel_rfl) (GO36 n) noInl_ok (K36 n) ((E36 n a0 a1).symm.trans h)

/-! ### orthoepy/orthoepyref17.First -/

def F26l0F (n : Nat) (rF26l0 : List (List UInt8) → Int → Option (List (Int × Int) × (List (Int × List Int) × (List (Int × Int) × (List (List Int × Int) × (List (Int × Int) × (Int × Unit)))))) → List (List UInt8) → List (List UInt8) → Option (Int × Bool)) (t1 : List (List UInt8)) (t7 : Int) (b10_0 : Option (List (Int × Int) × (List (Int × List Int) × (List (Int × Int) × (List (List Int × Int) × (List (Int × Int) × (Int × Unit))))))) (b10_1 : List (List UInt8)) (b10_2 : List (List UInt8)) : Option (Int × Bool) :=
  (bif (decide (t7 < ((t1).length : Int))) then
    (bif inB t7 (t1).length then
    (match F36 n (b10_0, (b10_1, (b10_2, ()))) ((t1).getD (Int.toNat t7) (Ty.dflt .str)) with
    | some r1 =>
    (bif (!r1.2) then
      some (t7, true)
    else
      rF26l0 t1 (IntKind.wrap .i64 (t7 + 1)) r1.1.1 r1.1.2.1 r1.1.2.2.1)
    | none => none)
    else none)
  else
    some (0, false))
def F26l0 (n : Nat) : Nat → List (List UInt8) → Int → Option (List (Int × Int) × (List (Int × List Int) × (List (Int × Int) × (List (List Int × Int) × (List (Int × Int) × (Int × Unit)))))) → List (List UInt8) → List (List UInt8) → Option (Int × Bool)
  | 0, _, _, _, _, _ => none
  | m + 1, t1, t7, b10_0, b10_1, b10_2 => F26l0F n (F26l0 n m) t1 t7 b10_0 b10_1 b10_2

def F26 (n : Nat) (a0 : Option (List (Int × Int) × (List (Int × List Int) × (List (Int × Int) × (List (List Int × Int) × (List (Int × Int) × (Int × Unit))))))) (a1 : List (List UInt8)) : Option (Int × Bool) :=
  F26l0 n n a1 0 a0 ([] : List (List UInt8)) ([] : List (List UInt8))

noncomputable def lay26 : Lay := layOf layL [(36, .io [.box (.pair (.val (.ref (.pair (.map (.int .i32) (.int .i64)) (.pair (.map (.int .i32) (.arr 2 (.int .i32))) (.pair (.map (.int .i32) (.int .i32)) (.pair (.map (.arr 2 (.int .i32)) (.int .i32)) (.pair (.map (.int .i32) (.int .i64)) (.pair (.int .i64) .unit)))))))) (.pair (.vec 9 .str) (.pair (.vec 9 .str) .unit))), .val .str] [.val .bool])]
theorem lay26_ok : LayOK Try.prog lay26 := layOf_ok layAll (by
  intro p hp
  simp only [List.mem_cons, List.not_mem_nil, or_false] at hp
  rcases hp with rfl
  · exact trivial) layEq layKeys

noncomputable def c26 : Code := Try.f26.body.getD .skip

noncomputable def G26 (n : Nat) : Ctx (Res [.int .i64, .bool]) := entIo 36 [.pair (.ref (.pair (.map (.int .i32) (.int .i64)) (.pair (.map (.int .i32) (.arr 2 (.int .i32))) (.pair (.map (.int .i32) (.int .i32)) (.pair (.map (.arr 2 (.int .i32)) (.int .i32)) (.pair (.map (.int .i32) (.int .i64)) (.pair (.int .i64) .unit))))))) (.pair (.slice .str) (.pair (.slice .str) .unit)), .str] [.pair (.ref (.pair (.map (.int .i32) (.int .i64)) (.pair (.map (.int .i32) (.arr 2 (.int .i32))) (.pair (.map (.int .i32) (.int .i32)) (.pair (.map (.arr 2 (.int .i32)) (.int .i32)) (.pair (.map (.int .i32) (.int .i64)) (.pair (.int .i64) .unit))))))) (.pair (.slice .str) (.pair (.slice .str) .unit)), .bool] (fun x => F36 n x.1 x.2) (noFns)

theorem GO26 (n : Nat) : CtxOK Try.prog lay26 (G26 n) := ent_okIo (ps := [.box (.pair (.val (.ref (.pair (.map (.int .i32) (.int .i64)) (.pair (.map (.int .i32) (.arr 2 (.int .i32))) (.pair (.map (.int .i32) (.int .i32)) (.pair (.map (.arr 2 (.int .i32)) (.int .i32)) (.pair (.map (.int .i32) (.int .i64)) (.pair (.int .i64) .unit)))))))) (.pair (.vec 9 .str) (.pair (.vec 9 .str) .unit))), .val .str]) (rss := [.val .bool]) (T36 n) (fun _ _ h => h) (noFns_ok)

noncomputable def P26 (n : Nat) : Pl (Res [.int .i64, .bool]) :=
  (.two .leaf (.two .leaf (.two (.two .leaf (.one (.loop [.val (.tmp 1) (.slice .str), .ptr (.tmp 6) 10 0, .val (.tmp 7) (.int .i64), .val (.cell 10 0) (.ref (.pair (.map (.int .i32) (.int .i64)) (.pair (.map (.int .i32) (.arr 2 (.int .i32))) (.pair (.map (.int .i32) (.int .i32)) (.pair (.map (.arr 2 (.int .i32)) (.int .i32)) (.pair (.map (.int .i32) (.int .i64)) (.pair (.int .i64) .unit))))))), .vec (.cell 10 1) 20000000 9 .str, .vec (.cell 10 2) 20000001 9 .str, .box 10 3] n (fun m x => F26l0 n m x.1 x.2.2.1 x.2.2.2.1 x.2.2.2.2.1 x.2.2.2.2.2.1) (fun _ => .leaf)))) .leaf)))

theorem K26 (n : Nat) : PlOK (G26 n) noInl lay26 25 (P26 n) c26 (fnK lay26 [.tmp 4, .tmp 5] [.val (.ref (.pair (.map (.int .i32) (.int .i64)) (.pair (.map (.int .i32) (.arr 2 (.int .i32))) (.pair (.map (.int .i32) (.int .i32)) (.pair (.map (.arr 2 (.int .i32)) (.int .i32)) (.pair (.map (.int .i32) (.int .i64)) (.pair (.int .i64) .unit))))))), .val (.slice .str)] [.val (.int .i64), .val .bool] [.int .i64, .bool]) :=
  ⟨trivial, ⟨trivial, ⟨⟨trivial, ⟨by kernel_rfl, fun x => by kernel_rfl, fun m => ⟨fun x => by kernel_rfl, trivial⟩⟩⟩, trivial⟩⟩⟩

theorem E26 (n : Nat) (a0 : Option (List (Int × Int) × (List (Int × List Int) × (List (Int × Int) × (List (List Int × Int) × (List (Int × Int) × (Int × Unit))))))) (a1 : List (List UInt8)) : F26 n a0 a1 = fnE [.val (.ref (.pair (.map (.int .i32) (.int .i64)) (.pair (.map (.int .i32) (.arr 2 (.int .i32))) (.pair (.map (.int .i32) (.int .i32)) (.pair (.map (.arr 2 (.int .i32)) (.int .i32)) (.pair (.map (.int .i32) (.int .i64)) (.pair (.int .i64) .unit))))))), .val (.slice .str)] (argDs [.ref (.pair (.map (.int .i32) (.int .i64)) (.pair (.map (.int .i32) (.arr 2 (.int .i32))) (.pair (.map (.int .i32) (.int .i32)) (.pair (.map (.arr 2 (.int .i32)) (.int .i32)) (.pair (.map (.int .i32) (.int .i64)) (.pair (.int .i64) .unit)))))), .slice .str] (a0, a1)) (fun st => ev (G26 n) noInl lay26 25 c26 (P26 n) st (fnK lay26 [.tmp 4, .tmp 5] [.val (.ref (.pair (.map (.int .i32) (.int .i64)) (.pair (.map (.int .i32) (.arr 2 (.int .i32))) (.pair (.map (.int .i32) (.int .i32)) (.pair (.map (.arr 2 (.int .i32)) (.int .i32)) (.pair (.map (.int .i32) (.int .i64)) (.pair (.int .i64) .unit))))))), .val (.slice .str)] [.val (.int .i64), .val .bool] [.int .i64, .bool])) := by kernel_rfl

theorem T26 (n : Nat) : Told Try.prog 26 [.ref (.pair (.map (.int .i32) (.int .i64)) (.pair (.map (.int .i32) (.arr 2 (.int .i32))) (.pair (.map (.int .i32) (.int .i32)) (.pair (.map (.arr 2 (.int .i32)) (.int .i32)) (.pair (.map (.int .i32) (.int .i64)) (.pair (.int .i64) .unit)))))), .slice .str] [.int .i64, .bool] (fun x => F26 n x.1 x.2) := by
  rintro ⟨a0, a1⟩ r h
  exact calls_plain (fn_sound lay26_ok mixed (rvs := [.tmp 4, .tmp 5]) (by kernel_rfl : Try.prog.funcs[26]? = some Try.f26) (by kernel_rfl : Try.f26.body = some c26) (by kernel_rfl) (by kernel_rfl) (by kernel_rfl) (GO26 n) noInl_ok (K26 n) ((E26 n a0 a1).symm.trans h)) rfl rfl rfl rfl

/-! ### orthoepy/orthoepyref01.Nonchar -/

def F35 (n : Nat) (a0 : Int) : Option (Bool) :=
  (bif (decide (a0 ≥ 64976)) then
    (bif (decide (a0 ≤ 65007)) then
      some true
    else
      (match F38 n a0 with
      | some r1 =>
      (bif r1 then
        (bif (!(65536 == 0)) then
        some (decide ((Int.tmod a0 65536) ≥ 65534))
        else none)
      else
        some false)
      | none => none))
  else
    (match F38 n a0 with
    | some r2 =>
    (bif r2 then
      (bif (!(65536 == 0)) then
      some (decide ((Int.tmod a0 65536) ≥ 65534))
      else none)
    else
      some false)
    | none => none))

noncomputable def c35 : Code := Try.f35.body.getD .skip

noncomputable def G35 (n : Nat) : Ctx (Res [.bool]) := ent 38 [.int .i32] [.bool] (fun x => F38 n x) (noFns)

theorem GO35 (n : Nat) : CtxOK Try.prog lay0 (G35 n) := ent_ok (T38 n) (fun _ _ h => h) (noFns_ok)

noncomputable def P35 (n : Nat) : Pl (Res [.bool]) :=
  .leaf

theorem K35 (n : Nat) : PlOK (G35 n) noInl lay0 18 (P35 n) c35 (fnK lay0 [.tmp 2] [.val (.int .i32)] [.val .bool] [.bool]) :=
  trivial

theorem E35 (n : Nat) (a0 : Int) : F35 n a0 = fnE [.val (.int .i32)] (argDs [.int .i32] (a0)) (fun st => ev (G35 n) noInl lay0 18 c35 (P35 n) st (fnK lay0 [.tmp 2] [.val (.int .i32)] [.val .bool] [.bool])) := by kernel_rfl

theorem T35 (n : Nat) : Told Try.prog 35 [.int .i32] [.bool] (fun x => F35 n x) := by
  rintro a0 r h
  exact calls_plain (fn_sound lay0_ok mixed (rvs := [.tmp 2]) (by kernel_rfl : Try.prog.funcs[35]? = some Try.f35) (by kernel_rfl : Try.f35.body = some c35) (by kernel_rfl) (by kernel_rfl) (by kernel_rfl) (GO35 n) noInl_ok (K35 n) ((E35 n a0).symm.trans h)) rfl rfl rfl rfl

/-! ### orthoepy/orthoepyref20.text -/

def F25l0F (n : Nat) (rF25l0 : List Int → Bool → Int → Option (Bool)) (t3 : List Int) (t5 : Bool) (t6 : Int) : Option (Bool) :=
  (bif (decide (t6 < ((t3).length : Int))) then
    (bif t5 then
      (bif inB t6 (t3).length then
      (match F35 n ((t3).getD (Int.toNat t6) (Ty.dflt (.int .i32))) with
      | some r2 =>
      rF25l0 t3 (!r2) (IntKind.wrap .i64 (t6 + 1))
      | none => none)
      else none)
    else
      rF25l0 t3 false (IntKind.wrap .i64 (t6 + 1)))
  else
    some t5)
def F25l0 (n : Nat) : Nat → List Int → Bool → Int → Option (Bool)
  | 0, _, _, _ => none
  | m + 1, t3, t5, t6 => F25l0F n (F25l0 n m) t3 t5 t6

def F25 (n : Nat) (a0 : List UInt8) : Option (Bool) :=
  (match F34 n (bytesOf a0) with
  | some r1 =>
  F25l0 n n r1.1 r1.2.2 0
  | none => none)

noncomputable def c25 : Code := Try.f25.body.getD .skip

noncomputable def G25 (n : Nat) : Ctx (Res [.bool]) := ent 34 [.slice (.int .u8)] [.slice (.int .i32), .int .i64, .bool] (fun x => F34 n x) (ent 35 [.int .i32] [.bool] (fun x => F35 n x) (noFns))

theorem GO25 (n : Nat) : CtxOK Try.prog lay0 (G25 n) := ent_ok (T34 n) (fun _ _ h => h) (ent_ok (T35 n) (fun _ _ h => h) (noFns_ok))

noncomputable def P25 (n : Nat) : Pl (Res [.bool]) :=
  (.two .leaf (.two .leaf (.two (.two .leaf (.one (.loop [.val (.tmp 3) (.slice (.int .i32)), .val (.tmp 5) .bool, .val (.tmp 6) (.int .i64)] n (fun m x => F25l0 n m x.1 x.2.1 x.2.2.1) (fun _ => .leaf)))) .leaf)))

theorem K25 (n : Nat) : PlOK (G25 n) noInl lay0 30 (P25 n) c25 (fnK lay0 [.tmp 2] [.val .str] [.val .bool] [.bool]) :=
  ⟨trivial, ⟨trivial, ⟨⟨trivial, ⟨by kernel_rfl, fun x => by kernel_rfl, fun m => ⟨fun x => by kernel_rfl, trivial⟩⟩⟩, trivial⟩⟩⟩

theorem E25 (n : Nat) (a0 : List UInt8) : F25 n a0 = fnE [.val .str] (argDs [.str] (a0)) (fun st => ev (G25 n) noInl lay0 30 c25 (P25 n) st (fnK lay0 [.tmp 2] [.val .str] [.val .bool] [.bool])) := by kernel_rfl

theorem T25 (n : Nat) : Told Try.prog 25 [.str] [.bool] (fun x => F25 n x) := by
  rintro a0 r h
  exact calls_plain (fn_sound lay0_ok mixed (rvs := [.tmp 2]) (by kernel_rfl : Try.prog.funcs[25]? = some Try.f25) (by kernel_rfl : Try.f25.body = some c25) (by kernel_rfl) (by kernel_rfl) (by kernel_rfl) (GO25 n) noInl_ok (K25 n) ((E25 n a0).symm.trans h)) rfl rfl rfl rfl

/-! ### orthoepy/orthoepyref20.plain -/

def F24j1 (n : Nat) (b1_0 : Int) (b1_1 : Bool) (b1_2 : Int) (b1_3 : List UInt8) (b1_4 : List (List UInt8)) (b1_5 : List V) : Option (Bool) :=
  (bif (decide (b1_2 ≥ (-9007199254740991))) then
    (bif (decide (b1_2 ≤ 9007199254740991)) then
      (match F25 n b1_3 with
      | some r1 =>
      some r1
      | none => none)
    else
      some false)
  else
    some false)

def F24j0 (n : Nat) (b1_0 : Int) (b1_1 : Bool) (b1_2 : Int) (b1_3 : List UInt8) (b1_4 : List (List UInt8)) (b1_5 : List V) : Option (Bool) :=
  (bif (decide (b1_0 < 5)) then
    (bif (decide (((b1_5).length : Int) > 0)) then
      some false
    else
      (bif (b1_0 != 6) then
        (bif (decide (((b1_4).length : Int) > 0)) then
          some false
        else
          (bif (b1_0 == 6) then
            (bif (((b1_4).length : Int) != ((b1_5).length : Int)) then
              some false
            else
              F24j1 n b1_0 b1_1 b1_2 b1_3 b1_4 b1_5)
          else
            F24j1 n b1_0 b1_1 b1_2 b1_3 b1_4 b1_5))
      else
        (bif (b1_0 == 6) then
          (bif (((b1_4).length : Int) != ((b1_5).length : Int)) then
            some false
          else
            F24j1 n b1_0 b1_1 b1_2 b1_3 b1_4 b1_5)
        else
          F24j1 n b1_0 b1_1 b1_2 b1_3 b1_4 b1_5)))
  else
    (bif (b1_0 != 6) then
      (bif (decide (((b1_4).length : Int) > 0)) then
        some false
      else
        (bif (b1_0 == 6) then
          (bif (((b1_4).length : Int) != ((b1_5).length : Int)) then
            some false
          else
            F24j1 n b1_0 b1_1 b1_2 b1_3 b1_4 b1_5)
        else
          F24j1 n b1_0 b1_1 b1_2 b1_3 b1_4 b1_5))
    else
      (bif (b1_0 == 6) then
        (bif (((b1_4).length : Int) != ((b1_5).length : Int)) then
          some false
        else
          F24j1 n b1_0 b1_1 b1_2 b1_3 b1_4 b1_5)
      else
        F24j1 n b1_0 b1_1 b1_2 b1_3 b1_4 b1_5)))

def F24 (n : Nat) (a0 : V) : Option (Bool) :=
  (bif (decide (a0.kind < 1)) then
    some false
  else
    (bif (decide (a0.kind > 6)) then
      some false
    else
      (bif (a0.kind != 2) then
        (bif a0.b then
          some false
        else
          (bif (a0.kind != 3) then
            (bif (a0.n != 0) then
              some false
            else
              (bif (a0.kind != 4) then
                (bif (!(a0.s == ([] : List UInt8))) then
                  some false
                else
                  F24j0 n a0.kind a0.b a0.n a0.s a0.names a0.kids)
              else
                F24j0 n a0.kind a0.b a0.n a0.s a0.names a0.kids))
          else
            (bif (a0.kind != 4) then
              (bif (!(a0.s == ([] : List UInt8))) then
                some false
              else
                F24j0 n a0.kind a0.b a0.n a0.s a0.names a0.kids)
            else
              F24j0 n a0.kind a0.b a0.n a0.s a0.names a0.kids)))
      else
        (bif (a0.kind != 3) then
          (bif (a0.n != 0) then
            some false
          else
            (bif (a0.kind != 4) then
              (bif (!(a0.s == ([] : List UInt8))) then
                some false
              else
                F24j0 n a0.kind a0.b a0.n a0.s a0.names a0.kids)
            else
              F24j0 n a0.kind a0.b a0.n a0.s a0.names a0.kids))
        else
          (bif (a0.kind != 4) then
            (bif (!(a0.s == ([] : List UInt8))) then
              some false
            else
              F24j0 n a0.kind a0.b a0.n a0.s a0.names a0.kids)
          else
            F24j0 n a0.kind a0.b a0.n a0.s a0.names a0.kids)))))

noncomputable def c24 : Code := Try.f24.body.getD .skip

noncomputable def G24 (n : Nat) : Ctx (Res [.bool]) := ent 25 [.str] [.bool] (fun x => F25 n x) (noFns)

theorem GO24 (n : Nat) : CtxOK Try.prog lay0 (G24 n) := ent_ok (T25 n) (fun _ _ h => h) (noFns_ok)

noncomputable def P24 (n : Nat) : Pl (Res [.bool]) :=
  (.two .leaf (.join [.ptr (.tmp 1) 1 0, .val (.cell 1 0) (.int .i64), .val (.cell 1 1) .bool, .val (.cell 1 2) (.int .i64), .val (.cell 1 3) .str, .val (.cell 1 4) (.slice .str), .val (.cell 1 5) (.slice .value), .box 1 6] (fun x => F24j0 n x.2.1 x.2.2.1 x.2.2.2.1 x.2.2.2.2.1 x.2.2.2.2.2.1 x.2.2.2.2.2.2.1) .leaf (.join [.ptr (.tmp 1) 1 0, .val (.cell 1 0) (.int .i64), .val (.cell 1 1) .bool, .val (.cell 1 2) (.int .i64), .val (.cell 1 3) .str, .val (.cell 1 4) (.slice .str), .val (.cell 1 5) (.slice .value), .box 1 6] (fun x => F24j1 n x.2.1 x.2.2.1 x.2.2.2.1 x.2.2.2.2.1 x.2.2.2.2.2.1 x.2.2.2.2.2.2.1) .leaf .leaf)))

theorem K24 (n : Nat) : PlOK (G24 n) noInl lay0 87 (P24 n) c24 (fnK lay0 [.tmp 2] [.val .value] [.val .bool] [.bool]) :=
  ⟨trivial, ⟨by kernel_rfl, fun x => by kernel_rfl, trivial, ⟨by kernel_rfl, fun x => by kernel_rfl, trivial, trivial⟩⟩⟩

theorem E24 (n : Nat) (a0 : V) : F24 n a0 = fnE [.val .value] (argDs [.value] (a0)) (fun st => ev (G24 n) noInl lay0 87 c24 (P24 n) st (fnK lay0 [.tmp 2] [.val .value] [.val .bool] [.bool])) := by kernel_rfl

theorem T24 (n : Nat) : Told Try.prog 24 [.value] [.bool] (fun x => F24 n x) := by
  rintro a0 r h
  exact calls_plain (fn_sound lay0_ok mixed (rvs := [.tmp 2]) (by kernel_rfl : Try.prog.funcs[24]? = some Try.f24) (by kernel_rfl : Try.f24.body = some c24) (by kernel_rfl) (by kernel_rfl) (by kernel_rfl) (GO24 n) noInl_ok (K24 n) ((E24 n a0).symm.trans h)) rfl rfl rfl rfl

/-! ### orthoepy/orthoepyref20.Check -/

def F13l1F (self : Option (List (Int × Int) × (List (Int × List Int) × (List (Int × Int) × (List (List Int × Int) × (List (Int × Int) × (Int × Unit)))))) → V → Option (Bool)) (n : Nat) (rF13l1 : Option (List (Int × Int) × (List (Int × List Int) × (List (Int × Int) × (List (List Int × Int) × (List (Int × Int) × (Int × Unit)))))) → Int → Int → Bool → Int → List UInt8 → List (List UInt8) → List V → Option (Bool)) (t0 : Option (List (Int × Int) × (List (Int × List Int) × (List (Int × Int) × (List (List Int × Int) × (List (Int × Int) × (Int × Unit))))))) (t8 : Int) (b3_0 : Int) (b3_1 : Bool) (b3_2 : Int) (b3_3 : List UInt8) (b3_4 : List (List UInt8)) (b3_5 : List V) : Option (Bool) :=
  (bif (decide (t8 < ((b3_5).length : Int))) then
    (bif inB t8 (b3_5).length then
    (match self t0 ((b3_5).getD (Int.toNat t8) (Ty.dflt .value)) with
    | some r4 =>
    (bif (!r4) then
      some false
    else
      rF13l1 t0 (IntKind.wrap .i64 (t8 + 1)) b3_0 b3_1 b3_2 b3_3 b3_4 b3_5)
    | none => none)
    else none)
  else
    some true)
def F13l1 (self : Option (List (Int × Int) × (List (Int × List Int) × (List (Int × Int) × (List (List Int × Int) × (List (Int × Int) × (Int × Unit)))))) → V → Option (Bool)) (n : Nat) : Nat → Option (List (Int × Int) × (List (Int × List Int) × (List (Int × Int) × (List (List Int × Int) × (List (Int × Int) × (Int × Unit)))))) → Int → Int → Bool → Int → List UInt8 → List (List UInt8) → List V → Option (Bool)
  | 0, _, _, _, _, _, _, _, _ => none
  | m + 1, t0, t8, b3_0, b3_1, b3_2, b3_3, b3_4, b3_5 => F13l1F self n (F13l1 self n m) t0 t8 b3_0 b3_1 b3_2 b3_3 b3_4 b3_5

def F13l0F (self : Option (List (Int × Int) × (List (Int × List Int) × (List (Int × Int) × (List (List Int × Int) × (List (Int × Int) × (Int × Unit)))))) → V → Option (Bool)) (n : Nat) (rF13l0 : Option (List (Int × Int) × (List (Int × List Int) × (List (Int × Int) × (List (List Int × Int) × (List (Int × Int) × (Int × Unit)))))) → Int → Int → Bool → Int → List UInt8 → List (List UInt8) → List V → Option (Bool)) (t0 : Option (List (Int × Int) × (List (Int × List Int) × (List (Int × Int) × (List (List Int × Int) × (List (Int × Int) × (Int × Unit))))))) (t5 : Int) (b3_0 : Int) (b3_1 : Bool) (b3_2 : Int) (b3_3 : List UInt8) (b3_4 : List (List UInt8)) (b3_5 : List V) : Option (Bool) :=
  (bif (decide (t5 < ((b3_4).length : Int))) then
    (bif inB t5 (b3_4).length then
    (match F25 n ((b3_4).getD (Int.toNat t5) (Ty.dflt .str)) with
    | some r2 =>
    (bif (!r2) then
      some false
    else
      rF13l0 t0 (IntKind.wrap .i64 (t5 + 1)) b3_0 b3_1 b3_2 b3_3 b3_4 b3_5)
    | none => none)
    else none)
  else
    (match F26 n t0 b3_4 with
    | some r3 =>
    (bif r3.2 then
      some false
    else
      F13l1 self n n t0 0 b3_0 b3_1 b3_2 b3_3 b3_4 b3_5)
    | none => none))
def F13l0 (self : Option (List (Int × Int) × (List (Int × List Int) × (List (Int × Int) × (List (List Int × Int) × (List (Int × Int) × (Int × Unit)))))) → V → Option (Bool)) (n : Nat) : Nat → Option (List (Int × Int) × (List (Int × List Int) × (List (Int × Int) × (List (List Int × Int) × (List (Int × Int) × (Int × Unit)))))) → Int → Int → Bool → Int → List UInt8 → List (List UInt8) → List V → Option (Bool)
  | 0, _, _, _, _, _, _, _, _ => none
  | m + 1, t0, t5, b3_0, b3_1, b3_2, b3_3, b3_4, b3_5 => F13l0F self n (F13l0 self n m) t0 t5 b3_0 b3_1 b3_2 b3_3 b3_4 b3_5

def F13B (self : Option (List (Int × Int) × (List (Int × List Int) × (List (Int × Int) × (List (List Int × Int) × (List (Int × Int) × (Int × Unit)))))) → V → Option (Bool)) (n : Nat) (a0 : Option (List (Int × Int) × (List (Int × List Int) × (List (Int × Int) × (List (List Int × Int) × (List (Int × Int) × (Int × Unit))))))) (a1 : V) : Option (Bool) :=
  (match F24 n (V.mk a1.kind a1.b a1.n a1.s a1.names a1.kids) with
  | some r1 =>
  (bif (!r1) then
    some false
  else
    F13l0 self n n a0 0 a1.kind a1.b a1.n a1.s a1.names a1.kids)
  | none => none)

def F13 : Nat → Option (List (Int × Int) × (List (Int × List Int) × (List (Int × Int) × (List (List Int × Int) × (List (Int × Int) × (Int × Unit)))))) → V → Option (Bool)
  | 0, _, _ => none
  | n + 1, a0, a1 => F13B (F13 n) n a0 a1

noncomputable def c13 : Code := Try.f13.body.getD .skip

noncomputable def G13 (self : Option (List (Int × Int) × (List (Int × List Int) × (List (Int × Int) × (List (List Int × Int) × (List (Int × Int) × (Int × Unit)))))) → V → Option (Bool)) (n : Nat) : Ctx (Res [.bool]) := ent 13 [.ref (.pair (.map (.int .i32) (.int .i64)) (.pair (.map (.int .i32) (.arr 2 (.int .i32))) (.pair (.map (.int .i32) (.int .i32)) (.pair (.map (.arr 2 (.int .i32)) (.int .i32)) (.pair (.map (.int .i32) (.int .i64)) (.pair (.int .i64) .unit)))))), .value] [.bool] (fun x => self x.1 x.2) (ent 24 [.value] [.bool] (fun x => F24 n x) (ent 25 [.str] [.bool] (fun x => F25 n x) (ent 26 [.ref (.pair (.map (.int .i32) (.int .i64)) (.pair (.map (.int .i32) (.arr 2 (.int .i32))) (.pair (.map (.int .i32) (.int .i32)) (.pair (.map (.arr 2 (.int .i32)) (.int .i32)) (.pair (.map (.int .i32) (.int .i64)) (.pair (.int .i64) .unit)))))), .slice .str] [.int .i64, .bool] (fun x => F26 n x.1 x.2) (noFns))))

theorem GO13 (self : Option (List (Int × Int) × (List (Int × List Int) × (List (Int × Int) × (List (List Int × Int) × (List (Int × Int) × (Int × Unit)))))) → V → Option (Bool)) (hs : Told Try.prog 13 [.ref (.pair (.map (.int .i32) (.int .i64)) (.pair (.map (.int .i32) (.arr 2 (.int .i32))) (.pair (.map (.int .i32) (.int .i32)) (.pair (.map (.arr 2 (.int .i32)) (.int .i32)) (.pair (.map (.int .i32) (.int .i64)) (.pair (.int .i64) .unit)))))), .value] [.bool] (fun x => self x.1 x.2)) (n : Nat) : CtxOK Try.prog lay0 (G13 self n) := ent_ok hs (fun _ _ h => h) (ent_ok (T24 n) (fun _ _ h => h) (ent_ok (T25 n) (fun _ _ h => h) (ent_ok (T26 n) (fun _ _ h => h) (noFns_ok))))

noncomputable def P13 (self : Option (List (Int × Int) × (List (Int × List Int) × (List (Int × Int) × (List (List Int × Int) × (List (Int × Int) × (Int × Unit)))))) → V → Option (Bool)) (n : Nat) : Pl (Res [.bool]) :=
  (.two .leaf (.two .leaf (.two (.two .leaf (.one (.loop [.val (.tmp 0) (.ref (.pair (.map (.int .i32) (.int .i64)) (.pair (.map (.int .i32) (.arr 2 (.int .i32))) (.pair (.map (.int .i32) (.int .i32)) (.pair (.map (.arr 2 (.int .i32)) (.int .i32)) (.pair (.map (.int .i32) (.int .i64)) (.pair (.int .i64) .unit))))))), .ptr (.tmp 3) 3 0, .val (.tmp 5) (.int .i64), .val (.cell 3 0) (.int .i64), .val (.cell 3 1) .bool, .val (.cell 3 2) (.int .i64), .val (.cell 3 3) .str, .val (.cell 3 4) (.slice .str), .val (.cell 3 5) (.slice .value), .box 3 6] n (fun m x => F13l0 self n m x.1 x.2.2.1 x.2.2.2.1 x.2.2.2.2.1 x.2.2.2.2.2.1 x.2.2.2.2.2.2.1 x.2.2.2.2.2.2.2.1 x.2.2.2.2.2.2.2.2.1) (fun _ => .leaf)))) (.two .leaf (.two .leaf (.two (.two .leaf (.one (.loop [.val (.tmp 0) (.ref (.pair (.map (.int .i32) (.int .i64)) (.pair (.map (.int .i32) (.arr 2 (.int .i32))) (.pair (.map (.int .i32) (.int .i32)) (.pair (.map (.arr 2 (.int .i32)) (.int .i32)) (.pair (.map (.int .i32) (.int .i64)) (.pair (.int .i64) .unit))))))), .ptr (.tmp 3) 3 0, .val (.tmp 8) (.int .i64), .val (.cell 3 0) (.int .i64), .val (.cell 3 1) .bool, .val (.cell 3 2) (.int .i64), .val (.cell 3 3) .str, .val (.cell 3 4) (.slice .str), .val (.cell 3 5) (.slice .value), .box 3 6] n (fun m x => F13l1 self n m x.1 x.2.2.1 x.2.2.2.1 x.2.2.2.2.1 x.2.2.2.2.2.1 x.2.2.2.2.2.2.1 x.2.2.2.2.2.2.2.1 x.2.2.2.2.2.2.2.2.1) (fun _ => .leaf)))) .leaf))))))

theorem K13 (self : Option (List (Int × Int) × (List (Int × List Int) × (List (Int × Int) × (List (List Int × Int) × (List (Int × Int) × (Int × Unit)))))) → V → Option (Bool)) (n : Nat) : PlOK (G13 self n) noInl lay0 49 (P13 self n) c13 (fnK lay0 [.tmp 4] [.val (.ref (.pair (.map (.int .i32) (.int .i64)) (.pair (.map (.int .i32) (.arr 2 (.int .i32))) (.pair (.map (.int .i32) (.int .i32)) (.pair (.map (.arr 2 (.int .i32)) (.int .i32)) (.pair (.map (.int .i32) (.int .i64)) (.pair (.int .i64) .unit))))))), .val .value] [.val .bool] [.bool]) :=
  ⟨trivial, ⟨trivial, ⟨⟨trivial, ⟨by kernel_rfl, fun x => by kernel_rfl, fun m => ⟨fun x => by kernel_rfl, trivial⟩⟩⟩, ⟨trivial, ⟨trivial, ⟨⟨trivial, ⟨by kernel_rfl, fun x => by kernel_rfl, fun m => ⟨fun x => by kernel_rfl, trivial⟩⟩⟩, trivial⟩⟩⟩⟩⟩⟩

theorem E13 (self : Option (List (Int × Int) × (List (Int × List Int) × (List (Int × Int) × (List (List Int × Int) × (List (Int × Int) × (Int × Unit)))))) → V → Option (Bool)) (n : Nat) (a0 : Option (List (Int × Int) × (List (Int × List Int) × (List (Int × Int) × (List (List Int × Int) × (List (Int × Int) × (Int × Unit))))))) (a1 : V) : F13B self n a0 a1 = fnE [.val (.ref (.pair (.map (.int .i32) (.int .i64)) (.pair (.map (.int .i32) (.arr 2 (.int .i32))) (.pair (.map (.int .i32) (.int .i32)) (.pair (.map (.arr 2 (.int .i32)) (.int .i32)) (.pair (.map (.int .i32) (.int .i64)) (.pair (.int .i64) .unit))))))), .val .value] (argDs [.ref (.pair (.map (.int .i32) (.int .i64)) (.pair (.map (.int .i32) (.arr 2 (.int .i32))) (.pair (.map (.int .i32) (.int .i32)) (.pair (.map (.arr 2 (.int .i32)) (.int .i32)) (.pair (.map (.int .i32) (.int .i64)) (.pair (.int .i64) .unit)))))), .value] (a0, a1)) (fun st => ev (G13 self n) noInl lay0 49 c13 (P13 self n) st (fnK lay0 [.tmp 4] [.val (.ref (.pair (.map (.int .i32) (.int .i64)) (.pair (.map (.int .i32) (.arr 2 (.int .i32))) (.pair (.map (.int .i32) (.int .i32)) (.pair (.map (.arr 2 (.int .i32)) (.int .i32)) (.pair (.map (.int .i32) (.int .i64)) (.pair (.int .i64) .unit))))))), .val .value] [.val .bool] [.bool])) := by kernel_rfl

theorem TB13 (self : Option (List (Int × Int) × (List (Int × List Int) × (List (Int × Int) × (List (List Int × Int) × (List (Int × Int) × (Int × Unit)))))) → V → Option (Bool)) (hs : Told Try.prog 13 [.ref (.pair (.map (.int .i32) (.int .i64)) (.pair (.map (.int .i32) (.arr 2 (.int .i32))) (.pair (.map (.int .i32) (.int .i32)) (.pair (.map (.arr 2 (.int .i32)) (.int .i32)) (.pair (.map (.int .i32) (.int .i64)) (.pair (.int .i64) .unit)))))), .value] [.bool] (fun x => self x.1 x.2)) (n : Nat) : Told Try.prog 13 [.ref (.pair (.map (.int .i32) (.int .i64)) (.pair (.map (.int .i32) (.arr 2 (.int .i32))) (.pair (.map (.int .i32) (.int .i32)) (.pair (.map (.arr 2 (.int .i32)) (.int .i32)) (.pair (.map (.int .i32) (.int .i64)) (.pair (.int .i64) .unit)))))), .value] [.bool] (fun x => F13B self n x.1 x.2) := by
  rintro ⟨a0, a1⟩ r h
  exact calls_plain (fn_sound lay0_ok mixed (rvs := [.tmp 4]) (by kernel_rfl : Try.prog.funcs[13]? = some Try.f13) (by kernel_rfl : Try.f13.body = some c13) (by kernel_rfl) (by kernel_rfl) (by kernel_rfl) (GO13 self hs n) noInl_ok (K13 self n) ((E13 self n a0 a1).symm.trans h)) rfl rfl rfl rfl

theorem T13 : ∀ n : Nat, Told Try.prog 13 [.ref (.pair (.map (.int .i32) (.int .i64)) (.pair (.map (.int .i32) (.arr 2 (.int .i32))) (.pair (.map (.int .i32) (.int .i32)) (.pair (.map (.arr 2 (.int .i32)) (.int .i32)) (.pair (.map (.int .i32) (.int .i64)) (.pair (.int .i64) .unit)))))), .value] [.bool] (fun x => F13 n x.1 x.2)
  | 0 => fun _ _ h => by cases h
  | n + 1 => TB13 (F13 n) (T13 n) n

/-! ### orthoepy/orthoepyref20.Same -/

def F14l1F (self : V → V → Option (Bool)) (n : Nat) (rF14l1 : Int → Int → Bool → Int → List UInt8 → List (List UInt8) → List V → Int → Bool → Int → List UInt8 → List (List UInt8) → List V → Option (Bool)) (t6 : Int) (b2_0 : Int) (b2_1 : Bool) (b2_2 : Int) (b2_3 : List UInt8) (b2_4 : List (List UInt8)) (b2_5 : List V) (b3_0 : Int) (b3_1 : Bool) (b3_2 : Int) (b3_3 : List UInt8) (b3_4 : List (List UInt8)) (b3_5 : List V) : Option (Bool) :=
  (bif (decide (t6 < ((b2_5).length : Int))) then
    (bif inB t6 (b2_5).length then
    (bif inB t6 (b3_5).length then
    (match self ((b2_5).getD (Int.toNat t6) (Ty.dflt .value)) ((b3_5).getD (Int.toNat t6) (Ty.dflt .value)) with
    | some r1 =>
    (bif (!r1) then
      some false
    else
      rF14l1 (IntKind.wrap .i64 (t6 + 1)) b2_0 b2_1 b2_2 b2_3 b2_4 b2_5 b3_0 b3_1 b3_2 b3_3 b3_4 b3_5)
    | none => none)
    else none)
    else none)
  else
    some true)
def F14l1 (self : V → V → Option (Bool)) (n : Nat) : Nat → Int → Int → Bool → Int → List UInt8 → List (List UInt8) → List V → Int → Bool → Int → List UInt8 → List (List UInt8) → List V → Option (Bool)
  | 0, _, _, _, _, _, _, _, _, _, _, _, _, _ => none
  | m + 1, t6, b2_0, b2_1, b2_2, b2_3, b2_4, b2_5, b3_0, b3_1, b3_2, b3_3, b3_4, b3_5 => F14l1F self n (F14l1 self n m) t6 b2_0 b2_1 b2_2 b2_3 b2_4 b2_5 b3_0 b3_1 b3_2 b3_3 b3_4 b3_5

def F14l0F (self : V → V → Option (Bool)) (n : Nat) (rF14l0 : Int → Int → Bool → Int → List UInt8 → List (List UInt8) → List V → Int → Bool → Int → List UInt8 → List (List UInt8) → List V → Option (Bool)) (t5 : Int) (b2_0 : Int) (b2_1 : Bool) (b2_2 : Int) (b2_3 : List UInt8) (b2_4 : List (List UInt8)) (b2_5 : List V) (b3_0 : Int) (b3_1 : Bool) (b3_2 : Int) (b3_3 : List UInt8) (b3_4 : List (List UInt8)) (b3_5 : List V) : Option (Bool) :=
  (bif (decide (t5 < ((b2_4).length : Int))) then
    (bif inB t5 (b2_4).length then
    (bif inB t5 (b3_4).length then
    (bif (!(((b2_4).getD (Int.toNat t5) (Ty.dflt .str)) == ((b3_4).getD (Int.toNat t5) (Ty.dflt .str)))) then
      some false
    else
      rF14l0 (IntKind.wrap .i64 (t5 + 1)) b2_0 b2_1 b2_2 b2_3 b2_4 b2_5 b3_0 b3_1 b3_2 b3_3 b3_4 b3_5)
    else none)
    else none)
  else
    F14l1 self n n 0 b2_0 b2_1 b2_2 b2_3 b2_4 b2_5 b3_0 b3_1 b3_2 b3_3 b3_4 b3_5)
def F14l0 (self : V → V → Option (Bool)) (n : Nat) : Nat → Int → Int → Bool → Int → List UInt8 → List (List UInt8) → List V → Int → Bool → Int → List UInt8 → List (List UInt8) → List V → Option (Bool)
  | 0, _, _, _, _, _, _, _, _, _, _, _, _, _ => none
  | m + 1, t5, b2_0, b2_1, b2_2, b2_3, b2_4, b2_5, b3_0, b3_1, b3_2, b3_3, b3_4, b3_5 => F14l0F self n (F14l0 self n m) t5 b2_0 b2_1 b2_2 b2_3 b2_4 b2_5 b3_0 b3_1 b3_2 b3_3 b3_4 b3_5

def F14B (self : V → V → Option (Bool)) (n : Nat) (a0 : V) (a1 : V) : Option (Bool) :=
  (bif (a0.kind != a1.kind) then
    some false
  else
    (bif (!(a0.b == a1.b)) then
      some false
    else
      (bif (a0.n != a1.n) then
        some false
      else
        (bif (!(a0.s == a1.s)) then
          some false
        else
          (bif (((a0.kids).length : Int) != ((a1.kids).length : Int)) then
            some false
          else
            (bif (((a0.names).length : Int) != ((a1.names).length : Int)) then
              some false
            else
              F14l0 self n n 0 a0.kind a0.b a0.n a0.s a0.names a0.kids a1.kind a1.b a1.n a1.s a1.names a1.kids))))))

def F14 : Nat → V → V → Option (Bool)
  | 0, _, _ => none
  | n + 1, a0, a1 => F14B (F14 n) n a0 a1

noncomputable def c14 : Code := Try.f14.body.getD .skip

noncomputable def G14 (self : V → V → Option (Bool)) (n : Nat) : Ctx (Res [.bool]) := ent 14 [.value, .value] [.bool] (fun x => self x.1 x.2) (noFns)

theorem GO14 (self : V → V → Option (Bool)) (hs : Told Try.prog 14 [.value, .value] [.bool] (fun x => self x.1 x.2)) (n : Nat) : CtxOK Try.prog lay0 (G14 self n) := ent_ok hs (fun _ _ h => h) (noFns_ok)

noncomputable def P14 (self : V → V → Option (Bool)) (n : Nat) : Pl (Res [.bool]) :=
  (.two .leaf (.two .leaf (.two (.two .leaf (.one (.loop [.ptr (.tmp 2) 2 0, .ptr (.tmp 3) 3 0, .val (.tmp 5) (.int .i64), .val (.cell 2 0) (.int .i64), .val (.cell 2 1) .bool, .val (.cell 2 2) (.int .i64), .val (.cell 2 3) .str, .val (.cell 2 4) (.slice .str), .val (.cell 2 5) (.slice .value), .val (.cell 3 0) (.int .i64), .val (.cell 3 1) .bool, .val (.cell 3 2) (.int .i64), .val (.cell 3 3) .str, .val (.cell 3 4) (.slice .str), .val (.cell 3 5) (.slice .value), .box 2 6, .box 3 6] n (fun m x => F14l0 self n m x.2.2.1 x.2.2.2.1 x.2.2.2.2.1 x.2.2.2.2.2.1 x.2.2.2.2.2.2.1 x.2.2.2.2.2.2.2.1 x.2.2.2.2.2.2.2.2.1 x.2.2.2.2.2.2.2.2.2.1 x.2.2.2.2.2.2.2.2.2.2.1 x.2.2.2.2.2.2.2.2.2.2.2.1 x.2.2.2.2.2.2.2.2.2.2.2.2.1 x.2.2.2.2.2.2.2.2.2.2.2.2.2.1 x.2.2.2.2.2.2.2.2.2.2.2.2.2.2.1) (fun _ => .leaf)))) (.two (.two .leaf (.one (.loop [.ptr (.tmp 2) 2 0, .ptr (.tmp 3) 3 0, .val (.tmp 6) (.int .i64), .val (.cell 2 0) (.int .i64), .val (.cell 2 1) .bool, .val (.cell 2 2) (.int .i64), .val (.cell 2 3) .str, .val (.cell 2 4) (.slice .str), .val (.cell 2 5) (.slice .value), .val (.cell 3 0) (.int .i64), .val (.cell 3 1) .bool, .val (.cell 3 2) (.int .i64), .val (.cell 3 3) .str, .val (.cell 3 4) (.slice .str), .val (.cell 3 5) (.slice .value), .box 2 6, .box 3 6] n (fun m x => F14l1 self n m x.2.2.1 x.2.2.2.1 x.2.2.2.2.1 x.2.2.2.2.2.1 x.2.2.2.2.2.2.1 x.2.2.2.2.2.2.2.1 x.2.2.2.2.2.2.2.2.1 x.2.2.2.2.2.2.2.2.2.1 x.2.2.2.2.2.2.2.2.2.2.1 x.2.2.2.2.2.2.2.2.2.2.2.1 x.2.2.2.2.2.2.2.2.2.2.2.2.1 x.2.2.2.2.2.2.2.2.2.2.2.2.2.1 x.2.2.2.2.2.2.2.2.2.2.2.2.2.2.1) (fun _ => .leaf)))) .leaf))))

theorem K14 (self : V → V → Option (Bool)) (n : Nat) : PlOK (G14 self n) noInl lay0 88 (P14 self n) c14 (fnK lay0 [.tmp 4] [.val .value, .val .value] [.val .bool] [.bool]) :=
  ⟨trivial, ⟨trivial, ⟨⟨trivial, ⟨by kernel_rfl, fun x => by kernel_rfl, fun m => ⟨fun x => by kernel_rfl, trivial⟩⟩⟩, ⟨⟨trivial, ⟨by kernel_rfl, fun x => by kernel_rfl, fun m => ⟨fun x => by kernel_rfl, trivial⟩⟩⟩, trivial⟩⟩⟩⟩

theorem E14 (self : V → V → Option (Bool)) (n : Nat) (a0 : V) (a1 : V) : F14B self n a0 a1 = fnE [.val .value, .val .value] (argDs [.value, .value] (a0, a1)) (fun st => ev (G14 self n) noInl lay0 88 c14 (P14 self n) st (fnK lay0 [.tmp 4] [.val .value, .val .value] [.val .bool] [.bool])) := by kernel_rfl

theorem TB14 (self : V → V → Option (Bool)) (hs : Told Try.prog 14 [.value, .value] [.bool] (fun x => self x.1 x.2)) (n : Nat) : Told Try.prog 14 [.value, .value] [.bool] (fun x => F14B self n x.1 x.2) := by
  rintro ⟨a0, a1⟩ r h
  exact calls_plain (fn_sound lay0_ok mixed (rvs := [.tmp 4]) (by kernel_rfl : Try.prog.funcs[14]? = some Try.f14) (by kernel_rfl : Try.f14.body = some c14) (by kernel_rfl) (by kernel_rfl) (by kernel_rfl) (GO14 self hs n) noInl_ok (K14 self n) ((E14 self n a0 a1).symm.trans h)) rfl rfl rfl rfl

theorem T14 : ∀ n : Nat, Told Try.prog 14 [.value, .value] [.bool] (fun x => F14 n x.1 x.2)
  | 0 => fun _ _ h => by cases h
  | n + 1 => TB14 (F14 n) (T14 n) n

/-! ### orthoepy/orthoepylaw00.Place -/

def F23 (n : Nat) (a0 : Int) (a1 : Int) : Option (Int) :=
  (bif (!(a1 == 0)) then
  (bif (decide ((Int.tmod a0 a1) < 0)) then
    some (IntKind.wrap .i64 ((Int.tmod a0 a1) + a1))
  else
    some (Int.tmod a0 a1))
  else none)

noncomputable def c23 : Code := Try.f23.body.getD .skip

noncomputable def G23 (n : Nat) : Ctx (Res [.int .i64]) := noFns

theorem GO23 (n : Nat) : CtxOK Try.prog lay0 (G23 n) := noFns_ok

noncomputable def P23 (n : Nat) : Pl (Res [.int .i64]) :=
  .leaf

theorem K23 (n : Nat) : PlOK (G23 n) noInl lay0 15 (P23 n) c23 (fnK lay0 [.tmp 4] [.val (.int .i64), .val (.int .i64)] [.val (.int .i64)] [.int .i64]) :=
  trivial

theorem E23 (n : Nat) (a0 : Int) (a1 : Int) : F23 n a0 a1 = fnE [.val (.int .i64), .val (.int .i64)] (argDs [.int .i64, .int .i64] (a0, a1)) (fun st => ev (G23 n) noInl lay0 15 c23 (P23 n) st (fnK lay0 [.tmp 4] [.val (.int .i64), .val (.int .i64)] [.val (.int .i64)] [.int .i64])) := by kernel_rfl

theorem T23 (n : Nat) : Told Try.prog 23 [.int .i64, .int .i64] [.int .i64] (fun x => F23 n x.1 x.2) := by
  rintro ⟨a0, a1⟩ r h
  exact calls_plain (fn_sound lay0_ok mixed (rvs := [.tmp 4]) (by kernel_rfl : Try.prog.funcs[23]? = some Try.f23) (by kernel_rfl : Try.f23.body = some c23) (by kernel_rfl) (by kernel_rfl) (by kernel_rfl) (GO23 n) noInl_ok (K23 n) ((E23 n a0 a1).symm.trans h)) rfl rfl rfl rfl

/-! ### orthoepy/orthoepylaw20.Tree -/

def F12l0F (self : List (Int × (Int × (Bool × (Int × (List UInt8 × (List UInt8 × (Bool × Unit))))))) → Int → Option (V)) (n : Nat) (rF12l0 : List (Int × (Int × (Bool × (Int × (List UInt8 × (List UInt8 × (Bool × Unit))))))) → Int → Int → Int → Bool → Int → List UInt8 → List (List UInt8) → List V → Int → Bool → Int → List UInt8 → List (List UInt8) → List V → Option (V)) (t0 : List (Int × (Int × (Bool × (Int × (List UInt8 × (List UInt8 × (Bool × Unit)))))))) (t1 : Int) (t6 : Int) (b4_0 : Int) (b4_1 : Bool) (b4_2 : Int) (b4_3 : List UInt8) (b4_4 : List (List UInt8)) (b4_5 : List V) (b5_0 : Int) (b5_1 : Bool) (b5_2 : Int) (b5_3 : List UInt8) (b5_4 : List (List UInt8)) (b5_5 : List V) : Option (V) :=
  (bif (decide (t6 < ((t0).length : Int))) then
    (bif inB t6 (t0).length then
    (match F23 n ((t0).getD (Int.toNat t6) (Ty.dflt (.pair (.int .i64) (.pair (.int .i64) (.pair .bool (.pair (.int .i64) (.pair .str (.pair .str (.pair .bool .unit))))))))).1 t6 with
    | some r1 =>
    (bif (r1 == t1) then
      (match self t0 t6 with
      | some r2 =>
      (bif (decide (((b5_5).length + (([r2] : List V)).length) * 88 ≤ maxRoom) && decide ((b5_5).length + (([r2] : List V)).length ≤ maxRoom)) then
      (bif inB t6 (t0).length then
      (bif ((t0).getD (Int.toNat t6) (Ty.dflt (.pair (.int .i64) (.pair (.int .i64) (.pair .bool (.pair (.int .i64) (.pair .str (.pair .str (.pair .bool .unit))))))))).2.2.2.2.2.2.1 then
        (bif inB t6 (t0).length then
        (bif (decide (((b5_4).length + (([((t0).getD (Int.toNat t6) (Ty.dflt (.pair (.int .i64) (.pair (.int .i64) (.pair .bool (.pair (.int .i64) (.pair .str (.pair .str (.pair .bool .unit))))))))).2.2.2.2.2.1] : List (List UInt8))).length) * 16 ≤ maxRoom) && decide ((b5_4).length + (([((t0).getD (Int.toNat t6) (Ty.dflt (.pair (.int .i64) (.pair (.int .i64) (.pair .bool (.pair (.int .i64) (.pair .str (.pair .str (.pair .bool .unit))))))))).2.2.2.2.2.1] : List (List UInt8))).length ≤ maxRoom)) then
        rF12l0 t0 t1 (IntKind.wrap .i64 (t6 + 1)) b4_0 b4_1 b4_2 b4_3 b4_4 b4_5 b5_0 b5_1 b5_2 b5_3 (b5_4 ++ ([((t0).getD (Int.toNat t6) (Ty.dflt (.pair (.int .i64) (.pair (.int .i64) (.pair .bool (.pair (.int .i64) (.pair .str (.pair .str (.pair .bool .unit))))))))).2.2.2.2.2.1] : List (List UInt8))) (b5_5 ++ ([r2] : List V))
        else none)
        else none)
      else
        rF12l0 t0 t1 (IntKind.wrap .i64 (t6 + 1)) b4_0 b4_1 b4_2 b4_3 b4_4 b4_5 b5_0 b5_1 b5_2 b5_3 b5_4 (b5_5 ++ ([r2] : List V)))
      else none)
      else none)
      | none => none)
    else
      rF12l0 t0 t1 (IntKind.wrap .i64 (t6 + 1)) b4_0 b4_1 b4_2 b4_3 b4_4 b4_5 b5_0 b5_1 b5_2 b5_3 b5_4 b5_5)
    | none => none)
    else none)
  else
    some (V.mk b5_0 b5_1 b5_2 b5_3 b5_4 b5_5))
def F12l0 (self : List (Int × (Int × (Bool × (Int × (List UInt8 × (List UInt8 × (Bool × Unit))))))) → Int → Option (V)) (n : Nat) : Nat → List (Int × (Int × (Bool × (Int × (List UInt8 × (List UInt8 × (Bool × Unit))))))) → Int → Int → Int → Bool → Int → List UInt8 → List (List UInt8) → List V → Int → Bool → Int → List UInt8 → List (List UInt8) → List V → Option (V)
  | 0, _, _, _, _, _, _, _, _, _, _, _, _, _, _, _ => none
  | m + 1, t0, t1, t6, b4_0, b4_1, b4_2, b4_3, b4_4, b4_5, b5_0, b5_1, b5_2, b5_3, b5_4, b5_5 => F12l0F self n (F12l0 self n m) t0 t1 t6 b4_0 b4_1 b4_2 b4_3 b4_4 b4_5 b5_0 b5_1 b5_2 b5_3 b5_4 b5_5

def F12B (self : List (Int × (Int × (Bool × (Int × (List UInt8 × (List UInt8 × (Bool × Unit))))))) → Int → Option (V)) (n : Nat) (a0 : List (Int × (Int × (Bool × (Int × (List UInt8 × (List UInt8 × (Bool × Unit)))))))) (a1 : Int) : Option (V) :=
  (bif inB a1 (a0).length then
  (bif inB a1 (a0).length then
  (bif inB a1 (a0).length then
  (bif inB a1 (a0).length then
  F12l0 self n n a0 a1 (IntKind.wrap .i64 (a1 + 1)) 0 false 0 ([] : List UInt8) ([] : List (List UInt8)) ([] : List V) ((a0).getD (Int.toNat a1) (Ty.dflt (.pair (.int .i64) (.pair (.int .i64) (.pair .bool (.pair (.int .i64) (.pair .str (.pair .str (.pair .bool .unit))))))))).2.1 ((a0).getD (Int.toNat a1) (Ty.dflt (.pair (.int .i64) (.pair (.int .i64) (.pair .bool (.pair (.int .i64) (.pair .str (.pair .str (.pair .bool .unit))))))))).2.2.1 ((a0).getD (Int.toNat a1) (Ty.dflt (.pair (.int .i64) (.pair (.int .i64) (.pair .bool (.pair (.int .i64) (.pair .str (.pair .str (.pair .bool .unit))))))))).2.2.2.1 ((a0).getD (Int.toNat a1) (Ty.dflt (.pair (.int .i64) (.pair (.int .i64) (.pair .bool (.pair (.int .i64) (.pair .str (.pair .str (.pair .bool .unit))))))))).2.2.2.2.1 ([] : List (List UInt8)) ([] : List V)
  else none)
  else none)
  else none)
  else none)

def F12 : Nat → List (Int × (Int × (Bool × (Int × (List UInt8 × (List UInt8 × (Bool × Unit))))))) → Int → Option (V)
  | 0, _, _ => none
  | n + 1, a0, a1 => F12B (F12 n) n a0 a1

noncomputable def c12 : Code := Try.f12.body.getD .skip

noncomputable def G12 (self : List (Int × (Int × (Bool × (Int × (List UInt8 × (List UInt8 × (Bool × Unit))))))) → Int → Option (V)) (n : Nat) : Ctx (Res [.value]) := ent 12 [.slice (.pair (.int .i64) (.pair (.int .i64) (.pair .bool (.pair (.int .i64) (.pair .str (.pair .str (.pair .bool .unit))))))), .int .i64] [.value] (fun x => self x.1 x.2) (ent 23 [.int .i64, .int .i64] [.int .i64] (fun x => F23 n x.1 x.2) (noFns))

theorem GO12 (self : List (Int × (Int × (Bool × (Int × (List UInt8 × (List UInt8 × (Bool × Unit))))))) → Int → Option (V)) (hs : Told Try.prog 12 [.slice (.pair (.int .i64) (.pair (.int .i64) (.pair .bool (.pair (.int .i64) (.pair .str (.pair .str (.pair .bool .unit))))))), .int .i64] [.value] (fun x => self x.1 x.2)) (n : Nat) : CtxOK Try.prog lay0 (G12 self n) := ent_ok hs (fun _ _ h => h) (ent_ok (T23 n) (fun _ _ h => h) (noFns_ok))

noncomputable def P12 (self : List (Int × (Int × (Bool × (Int × (List UInt8 × (List UInt8 × (Bool × Unit))))))) → Int → Option (V)) (n : Nat) : Pl (Res [.value]) :=
  (.two .leaf (.two .leaf (.two (.two .leaf (.one (.loop [.val (.tmp 0) (.slice (.pair (.int .i64) (.pair (.int .i64) (.pair .bool (.pair (.int .i64) (.pair .str (.pair .str (.pair .bool .unit)))))))), .val (.tmp 1) (.int .i64), .ptr (.tmp 4) 4 0, .ptr (.tmp 5) 5 0, .val (.tmp 6) (.int .i64), .val (.cell 4 0) (.int .i64), .val (.cell 4 1) .bool, .val (.cell 4 2) (.int .i64), .val (.cell 4 3) .str, .vec (.cell 4 4) 20000000 9 .str, .vec (.cell 4 5) 20000001 30 .value, .val (.cell 5 0) (.int .i64), .val (.cell 5 1) .bool, .val (.cell 5 2) (.int .i64), .val (.cell 5 3) .str, .vec (.cell 5 4) 20000002 9 .str, .vec (.cell 5 5) 20000003 30 .value, .box 4 6, .box 5 6] n (fun m x => F12l0 self n m x.1 x.2.1 x.2.2.2.2.1 x.2.2.2.2.2.1 x.2.2.2.2.2.2.1 x.2.2.2.2.2.2.2.1 x.2.2.2.2.2.2.2.2.1 x.2.2.2.2.2.2.2.2.2.1 x.2.2.2.2.2.2.2.2.2.2.1 x.2.2.2.2.2.2.2.2.2.2.2.1 x.2.2.2.2.2.2.2.2.2.2.2.2.1 x.2.2.2.2.2.2.2.2.2.2.2.2.2.1 x.2.2.2.2.2.2.2.2.2.2.2.2.2.2.1 x.2.2.2.2.2.2.2.2.2.2.2.2.2.2.2.1 x.2.2.2.2.2.2.2.2.2.2.2.2.2.2.2.2.1) (fun _ => .leaf)))) .leaf)))

theorem K12 (self : List (Int × (Int × (Bool × (Int × (List UInt8 × (List UInt8 × (Bool × Unit))))))) → Int → Option (V)) (n : Nat) : PlOK (G12 self n) noInl lay0 69 (P12 self n) c12 (fnK lay0 [.cell 4 30] [.val (.slice (.pair (.int .i64) (.pair (.int .i64) (.pair .bool (.pair (.int .i64) (.pair .str (.pair .str (.pair .bool .unit)))))))), .val (.int .i64)] [.val .value] [.value]) :=
  ⟨trivial, ⟨trivial, ⟨⟨trivial, ⟨by kernel_rfl, fun x => by kernel_rfl, fun m => ⟨fun x => by kernel_rfl, trivial⟩⟩⟩, trivial⟩⟩⟩

theorem E12 (self : List (Int × (Int × (Bool × (Int × (List UInt8 × (List UInt8 × (Bool × Unit))))))) → Int → Option (V)) (n : Nat) (a0 : List (Int × (Int × (Bool × (Int × (List UInt8 × (List UInt8 × (Bool × Unit)))))))) (a1 : Int) : F12B self n a0 a1 = fnE [.val (.slice (.pair (.int .i64) (.pair (.int .i64) (.pair .bool (.pair (.int .i64) (.pair .str (.pair .str (.pair .bool .unit)))))))), .val (.int .i64)] (argDs [.slice (.pair (.int .i64) (.pair (.int .i64) (.pair .bool (.pair (.int .i64) (.pair .str (.pair .str (.pair .bool .unit))))))), .int .i64] (a0, a1)) (fun st => ev (G12 self n) noInl lay0 69 c12 (P12 self n) st (fnK lay0 [.cell 4 30] [.val (.slice (.pair (.int .i64) (.pair (.int .i64) (.pair .bool (.pair (.int .i64) (.pair .str (.pair .str (.pair .bool .unit)))))))), .val (.int .i64)] [.val .value] [.value])) := by kernel_rfl

theorem TB12 (self : List (Int × (Int × (Bool × (Int × (List UInt8 × (List UInt8 × (Bool × Unit))))))) → Int → Option (V)) (hs : Told Try.prog 12 [.slice (.pair (.int .i64) (.pair (.int .i64) (.pair .bool (.pair (.int .i64) (.pair .str (.pair .str (.pair .bool .unit))))))), .int .i64] [.value] (fun x => self x.1 x.2)) (n : Nat) : Told Try.prog 12 [.slice (.pair (.int .i64) (.pair (.int .i64) (.pair .bool (.pair (.int .i64) (.pair .str (.pair .str (.pair .bool .unit))))))), .int .i64] [.value] (fun x => F12B self n x.1 x.2) := by
  rintro ⟨a0, a1⟩ r h
  exact calls_plain (fn_sound lay0_ok mixed (rvs := [.cell 4 30]) (by kernel_rfl : Try.prog.funcs[12]? = some Try.f12) (by kernel_rfl : Try.f12.body = some c12) (by kernel_rfl) (by kernel_rfl) (by kernel_rfl) (GO12 self hs n) noInl_ok (K12 self n) ((E12 self n a0 a1).symm.trans h)) rfl rfl rfl rfl

theorem T12 : ∀ n : Nat, Told Try.prog 12 [.slice (.pair (.int .i64) (.pair (.int .i64) (.pair .bool (.pair (.int .i64) (.pair .str (.pair .str (.pair .bool .unit))))))), .int .i64] [.value] (fun x => F12 n x.1 x.2)
  | 0 => fun _ _ h => by cases h
  | n + 1 => TB12 (F12 n) (T12 n) n

/-! ### orthoepy/orthoepylaw20.Few -/

def F9l0F (n : Nat) (rF9l0 : List (Int × (Int × (Bool × (Int × (List UInt8 × (List UInt8 × (Bool × Unit))))))) → Int → Option (Bool)) (t0 : List (Int × (Int × (Bool × (Int × (List UInt8 × (List UInt8 × (Bool × Unit)))))))) (t3 : Int) : Option (Bool) :=
  (bif (decide (t3 < ((t0).length : Int))) then
    (bif inB t3 (t0).length then
    (bif (decide (((((t0).getD (Int.toNat t3) (Ty.dflt (.pair (.int .i64) (.pair (.int .i64) (.pair .bool (.pair (.int .i64) (.pair .str (.pair .str (.pair .bool .unit))))))))).2.2.2.2.1).length : Int) > 40)) then
      some false
    else
      (bif inB t3 (t0).length then
      (bif (decide (((((t0).getD (Int.toNat t3) (Ty.dflt (.pair (.int .i64) (.pair (.int .i64) (.pair .bool (.pair (.int .i64) (.pair .str (.pair .str (.pair .bool .unit))))))))).2.2.2.2.2.1).length : Int) > 40)) then
        some false
      else
        rF9l0 t0 (IntKind.wrap .i64 (t3 + 1)))
      else none))
    else none)
  else
    (bif (decide (((t0).length : Int) > 0)) then
      some (decide (((t0).length : Int) ≤ 30))
    else
      some false))
def F9l0 (n : Nat) : Nat → List (Int × (Int × (Bool × (Int × (List UInt8 × (List UInt8 × (Bool × Unit))))))) → Int → Option (Bool)
  | 0, _, _ => none
  | m + 1, t0, t3 => F9l0F n (F9l0 n m) t0 t3

def F9 (n : Nat) (a0 : List (Int × (Int × (Bool × (Int × (List UInt8 × (List UInt8 × (Bool × Unit)))))))) : Option (Bool) :=
  F9l0 n n a0 0

noncomputable def c9 : Code := Try.f9.body.getD .skip

noncomputable def G9 (n : Nat) : Ctx (Res [.bool]) := noFns

theorem GO9 (n : Nat) : CtxOK Try.prog lay0 (G9 n) := noFns_ok

noncomputable def P9 (n : Nat) : Pl (Res [.bool]) :=
  (.two .leaf (.two (.two .leaf (.one (.loop [.val (.tmp 0) (.slice (.pair (.int .i64) (.pair (.int .i64) (.pair .bool (.pair (.int .i64) (.pair .str (.pair .str (.pair .bool .unit)))))))), .val (.tmp 3) (.int .i64)] n (fun m x => F9l0 n m x.1 x.2.1) (fun _ => .leaf)))) .leaf))

theorem K9 (n : Nat) : PlOK (G9 n) noInl lay0 34 (P9 n) c9 (fnK lay0 [.tmp 2] [.val (.slice (.pair (.int .i64) (.pair (.int .i64) (.pair .bool (.pair (.int .i64) (.pair .str (.pair .str (.pair .bool .unit))))))))] [.val .bool] [.bool]) :=
  ⟨trivial, ⟨⟨trivial, ⟨by kernel_rfl, fun x => by kernel_rfl, fun m => ⟨fun x => by kernel_rfl, trivial⟩⟩⟩, trivial⟩⟩

theorem E9 (n : Nat) (a0 : List (Int × (Int × (Bool × (Int × (List UInt8 × (List UInt8 × (Bool × Unit)))))))) : F9 n a0 = fnE [.val (.slice (.pair (.int .i64) (.pair (.int .i64) (.pair .bool (.pair (.int .i64) (.pair .str (.pair .str (.pair .bool .unit))))))))] (argDs [.slice (.pair (.int .i64) (.pair (.int .i64) (.pair .bool (.pair (.int .i64) (.pair .str (.pair .str (.pair .bool .unit)))))))] (a0)) (fun st => ev (G9 n) noInl lay0 34 c9 (P9 n) st (fnK lay0 [.tmp 2] [.val (.slice (.pair (.int .i64) (.pair (.int .i64) (.pair .bool (.pair (.int .i64) (.pair .str (.pair .str (.pair .bool .unit))))))))] [.val .bool] [.bool])) := by kernel_rfl

theorem T9 (n : Nat) : Told Try.prog 9 [.slice (.pair (.int .i64) (.pair (.int .i64) (.pair .bool (.pair (.int .i64) (.pair .str (.pair .str (.pair .bool .unit)))))))] [.bool] (fun x => F9 n x) := by
  rintro a0 r h
  exact calls_plain (fn_sound lay0_ok mixed (rvs := [.tmp 2]) (by kernel_rfl : Try.prog.funcs[9]? = some Try.f9) (by kernel_rfl : Try.f9.body = some c9) (by kernel_rfl) (by kernel_rfl) (by kernel_rfl) (GO9 n) noInl_ok (K9 n) ((E9 n a0).symm.trans h)) rfl rfl rfl rfl

/-! ### slices.Index[[]string,string] -/

def F29l0F (n : Nat) (rF29l0 : List (List UInt8) → List UInt8 → Int → Int → Option (Int)) (t0 : List (List UInt8)) (t1 : List UInt8) (t7 : Int) (t8 : Int) : Option (Int) :=
  (bif (decide (t8 < t7)) then
    (bif inB t8 (t0).length then
    (bif (t1 == ((t0).getD (Int.toNat t8) (Ty.dflt .str))) then
      some t8
    else
      rF29l0 t0 t1 t7 (IntKind.wrap .i64 (t8 + 1)))
    else none)
  else
    some (-1))
def F29l0 (n : Nat) : Nat → List (List UInt8) → List UInt8 → Int → Int → Option (Int)
  | 0, _, _, _, _ => none
  | m + 1, t0, t1, t7, t8 => F29l0F n (F29l0 n m) t0 t1 t7 t8

def F29 (n : Nat) (a0 : List (List UInt8)) (a1 : List UInt8) : Option (Int) :=
  F29l0 n n a0 a1 ((a0).length : Int) 0

noncomputable def c29 : Code := Try.f29.body.getD .skip

noncomputable def G29 (n : Nat) : Ctx (Res [.int .i64]) := noFns

theorem GO29 (n : Nat) : CtxOK Try.prog lay0 (G29 n) := noFns_ok

noncomputable def P29 (n : Nat) : Pl (Res [.int .i64]) :=
  (.two .leaf (.two (.two .leaf (.one (.loop [.val (.tmp 0) (.slice .str), .val (.tmp 1) .str, .val (.tmp 7) (.int .i64), .val (.tmp 8) (.int .i64)] n (fun m x => F29l0 n m x.1 x.2.1 x.2.2.1 x.2.2.2.1) (fun _ => .leaf)))) .leaf))

theorem K29 (n : Nat) : PlOK (G29 n) noInl lay0 19 (P29 n) c29 (fnK lay0 [.tmp 4] [.val (.slice .str), .val .str] [.val (.int .i64)] [.int .i64]) :=
  ⟨trivial, ⟨⟨trivial, ⟨by kernel_rfl, fun x => by kernel_rfl, fun m => ⟨fun x => by kernel_rfl, trivial⟩⟩⟩, trivial⟩⟩

theorem E29 (n : Nat) (a0 : List (List UInt8)) (a1 : List UInt8) : F29 n a0 a1 = fnE [.val (.slice .str), .val .str] (argDs [.slice .str, .str] (a0, a1)) (fun st => ev (G29 n) noInl lay0 19 c29 (P29 n) st (fnK lay0 [.tmp 4] [.val (.slice .str), .val .str] [.val (.int .i64)] [.int .i64])) := by kernel_rfl

theorem T29 (n : Nat) : Told Try.prog 29 [.slice .str, .str] [.int .i64] (fun x => F29 n x.1 x.2) := by
  rintro ⟨a0, a1⟩ r h
  exact calls_plain (fn_sound lay0_ok mixed (rvs := [.tmp 4]) (by kernel_rfl : Try.prog.funcs[29]? = some Try.f29) (by kernel_rfl : Try.f29.body = some c29) (by kernel_rfl) (by kernel_rfl) (by kernel_rfl) (GO29 n) noInl_ok (K29 n) ((E29 n a0 a1).symm.trans h)) rfl rfl rfl rfl

/-! ### orthoepy/patch.Merge -/

def F15j2 (self : V → V → Option (V)) (n : Nat) (rF15l1 : List V → Int → Int → Int → Bool → Int → List UInt8 → List (List UInt8) → List V → Int → Bool → Int → List UInt8 → List (List UInt8) → List V → Int → Bool → Int → List UInt8 → List (List UInt8) → List V → Option (V)) (t6 : Int) (t8 : Int) (t26 : List V) (t27 : Int) (t28 : Int) (t70 : Bool) (b3_0 : Int) (b3_1 : Bool) (b3_2 : Int) (b3_3 : List UInt8) (b3_4 : List (List UInt8)) (b3_5 : List V) (b4_0 : Int) (b4_1 : Bool) (b4_2 : Int) (b4_3 : List UInt8) (b4_4 : List (List UInt8)) (b4_5 : List V) (b5_0 : Int) (b5_1 : Bool) (b5_2 : Int) (b5_3 : List UInt8) (b5_4 : List (List UInt8)) (b5_5 : List V) (b7_0 : Int) (b7_1 : Bool) (b7_2 : Int) (b7_3 : List UInt8) (b7_4 : List (List UInt8)) (b7_5 : List V) : Option (V) :=
  (bif t70 then
    (bif ((decide (0 ≤ t8) && decide (t8 ≤ (IntKind.wrap .i64 (t8 + 1)))) && decide ((IntKind.wrap .i64 (t8 + 1)) ≤ ((b5_4).length : Int))) then
    (bif ((decide (0 ≤ t8) && decide (t8 ≤ (IntKind.wrap .i64 (t8 + 1)))) && decide ((IntKind.wrap .i64 (t8 + 1)) ≤ ((b5_5).length : Int))) then
    rF15l1 t26 t27 (IntKind.wrap .i64 (t28 + 1)) b3_0 b3_1 b3_2 b3_3 b3_4 b3_5 b4_0 b4_1 b4_2 b4_3 b4_4 b4_5 b5_0 b5_1 b5_2 b5_3 ((b5_4).take (Int.toNat t8) ++ (b5_4).drop (Int.toNat (IntKind.wrap .i64 (t8 + 1)))) ((b5_5).take (Int.toNat t8) ++ (b5_5).drop (Int.toNat (IntKind.wrap .i64 (t8 + 1))))
    else none)
    else none)
  else
    (bif (b7_0 == 1) then
      rF15l1 t26 t27 (IntKind.wrap .i64 (t28 + 1)) b3_0 b3_1 b3_2 b3_3 b3_4 b3_5 b4_0 b4_1 b4_2 b4_3 b4_4 b4_5 b5_0 b5_1 b5_2 b5_3 b5_4 b5_5
    else
      (bif (decide (t8 ≥ 0)) then
        (bif inB t8 (b5_5).length then
        (match self ((b5_5).getD (Int.toNat t8) (Ty.dflt .value)) (V.mk b7_0 b7_1 b7_2 b7_3 b7_4 b7_5) with
        | some r2 =>
        (bif inB t8 (b5_5).length then
        rF15l1 t26 t27 (IntKind.wrap .i64 (t28 + 1)) b3_0 b3_1 b3_2 b3_3 b3_4 b3_5 b4_0 b4_1 b4_2 b4_3 b4_4 b4_5 b5_0 b5_1 b5_2 b5_3 b5_4 ((b5_5).set (Int.toNat t8) r2)
        else none)
        | none => none)
        else none)
      else
        (bif inB t6 (b3_4).length then
        (bif (decide (((b5_4).length + (([((b3_4).getD (Int.toNat t6) (Ty.dflt .str))] : List (List UInt8))).length) * 16 ≤ maxRoom) && decide ((b5_4).length + (([((b3_4).getD (Int.toNat t6) (Ty.dflt .str))] : List (List UInt8))).length ≤ maxRoom)) then
        (match self (V.mk 0 false 0 ([] : List UInt8) ([] : List (List UInt8)) ([] : List V)) (V.mk b7_0 b7_1 b7_2 b7_3 b7_4 b7_5) with
        | some r3 =>
        (bif (decide (((b5_5).length + (([r3] : List V)).length) * 88 ≤ maxRoom) && decide ((b5_5).length + (([r3] : List V)).length ≤ maxRoom)) then
        rF15l1 t26 t27 (IntKind.wrap .i64 (t28 + 1)) b3_0 b3_1 b3_2 b3_3 b3_4 b3_5 b4_0 b4_1 b4_2 b4_3 b4_4 b4_5 b5_0 b5_1 b5_2 b5_3 (b5_4 ++ ([((b3_4).getD (Int.toNat t6) (Ty.dflt .str))] : List (List UInt8))) (b5_5 ++ ([r3] : List V))
        else none)
        | none => none)
        else none)
        else none))))

def F15l1F (self : V → V → Option (V)) (n : Nat) (rF15l1 : List V → Int → Int → Int → Bool → Int → List UInt8 → List (List UInt8) → List V → Int → Bool → Int → List UInt8 → List (List UInt8) → List V → Int → Bool → Int → List UInt8 → List (List UInt8) → List V → Option (V)) (t26 : List V) (t27 : Int) (t28 : Int) (b3_0 : Int) (b3_1 : Bool) (b3_2 : Int) (b3_3 : List UInt8) (b3_4 : List (List UInt8)) (b3_5 : List V) (b4_0 : Int) (b4_1 : Bool) (b4_2 : Int) (b4_3 : List UInt8) (b4_4 : List (List UInt8)) (b4_5 : List V) (b5_0 : Int) (b5_1 : Bool) (b5_2 : Int) (b5_3 : List UInt8) (b5_4 : List (List UInt8)) (b5_5 : List V) : Option (V) :=
  (bif (decide (t28 < t27)) then
    (bif inB t28 (t26).length then
    (bif (decide (t28 ≥ ((b3_4).length : Int))) then
      some (V.mk b5_0 b5_1 b5_2 b5_3 b5_4 b5_5)
    else
      (bif inB t28 (b3_4).length then
      (match F29 n b5_4 ((b3_4).getD (Int.toNat t28) (Ty.dflt .str)) with
      | some r1 =>
      (bif (decide (r1 ≥ ((b5_5).length : Int))) then
        rF15l1 t26 t27 (IntKind.wrap .i64 (t28 + 1)) b3_0 b3_1 b3_2 b3_3 b3_4 b3_5 b4_0 b4_1 b4_2 b4_3 b4_4 b4_5 b5_0 b5_1 b5_2 b5_3 b5_4 b5_5
      else
        (bif (((t26).getD (Int.toNat t28) (Ty.dflt .value)).kind == 1) then
          F15j2 self n rF15l1 t28 r1 t26 t27 t28 (decide (r1 ≥ 0)) b3_0 b3_1 b3_2 b3_3 b3_4 b3_5 b4_0 b4_1 b4_2 b4_3 b4_4 b4_5 b5_0 b5_1 b5_2 b5_3 b5_4 b5_5 ((t26).getD (Int.toNat t28) (Ty.dflt .value)).kind ((t26).getD (Int.toNat t28) (Ty.dflt .value)).b ((t26).getD (Int.toNat t28) (Ty.dflt .value)).n ((t26).getD (Int.toNat t28) (Ty.dflt .value)).s ((t26).getD (Int.toNat t28) (Ty.dflt .value)).names ((t26).getD (Int.toNat t28) (Ty.dflt .value)).kids
        else
          F15j2 self n rF15l1 t28 r1 t26 t27 t28 false b3_0 b3_1 b3_2 b3_3 b3_4 b3_5 b4_0 b4_1 b4_2 b4_3 b4_4 b4_5 b5_0 b5_1 b5_2 b5_3 b5_4 b5_5 ((t26).getD (Int.toNat t28) (Ty.dflt .value)).kind ((t26).getD (Int.toNat t28) (Ty.dflt .value)).b ((t26).getD (Int.toNat t28) (Ty.dflt .value)).n ((t26).getD (Int.toNat t28) (Ty.dflt .value)).s ((t26).getD (Int.toNat t28) (Ty.dflt .value)).names ((t26).getD (Int.toNat t28) (Ty.dflt .value)).kids))
      | none => none)
      else none))
    else none)
  else
    some (V.mk b5_0 b5_1 b5_2 b5_3 b5_4 b5_5))
def F15l1 (self : V → V → Option (V)) (n : Nat) : Nat → List V → Int → Int → Int → Bool → Int → List UInt8 → List (List UInt8) → List V → Int → Bool → Int → List UInt8 → List (List UInt8) → List V → Int → Bool → Int → List UInt8 → List (List UInt8) → List V → Option (V)
  | 0, _, _, _, _, _, _, _, _, _, _, _, _, _, _, _, _, _, _, _, _, _ => none
  | m + 1, t26, t27, t28, b3_0, b3_1, b3_2, b3_3, b3_4, b3_5, b4_0, b4_1, b4_2, b4_3, b4_4, b4_5, b5_0, b5_1, b5_2, b5_3, b5_4, b5_5 => F15l1F self n (F15l1 self n m) t26 t27 t28 b3_0 b3_1 b3_2 b3_3 b3_4 b3_5 b4_0 b4_1 b4_2 b4_3 b4_4 b4_5 b5_0 b5_1 b5_2 b5_3 b5_4 b5_5

def F15j0 (self : V → V → Option (V)) (n : Nat) (b3_0 : Int) (b3_1 : Bool) (b3_2 : Int) (b3_3 : List UInt8) (b3_4 : List (List UInt8)) (b3_5 : List V) (b4_0 : Int) (b4_1 : Bool) (b4_2 : Int) (b4_3 : List UInt8) (b4_4 : List (List UInt8)) (b4_5 : List V) (b5_0 : Int) (b5_1 : Bool) (b5_2 : Int) (b5_3 : List UInt8) (b5_4 : List (List UInt8)) (b5_5 : List V) : Option (V) :=
  F15l1 self n n b3_5 ((b3_5).length : Int) 0 b3_0 b3_1 b3_2 b3_3 b3_4 b3_5 b4_0 b4_1 b4_2 b4_3 b4_4 b4_5 b5_0 b5_1 b5_2 b5_3 b5_4 b5_5

def F15B (self : V → V → Option (V)) (n : Nat) (a0 : V) (a1 : V) : Option (V) :=
  (bif (a1.kind != 6) then
    some (V.mk a1.kind a1.b a1.n a1.s a1.names a1.kids)
  else
    (bif (a0.kind == 6) then
      (bif (decide ((a0.names).length * 16 ≤ maxRoom) && decide ((a0.names).length ≤ maxRoom)) then
      (bif (decide ((a0.kids).length * 88 ≤ maxRoom) && decide ((a0.kids).length ≤ maxRoom)) then
      F15j0 self n a1.kind a1.b a1.n a1.s a1.names a1.kids 0 false 0 ([] : List UInt8) ([] : List (List UInt8)) ([] : List V) 6 false 0 ([] : List UInt8) a0.names a0.kids
      else none)
      else none)
    else
      F15j0 self n a1.kind a1.b a1.n a1.s a1.names a1.kids 0 false 0 ([] : List UInt8) ([] : List (List UInt8)) ([] : List V) 6 false 0 ([] : List UInt8) ([] : List (List UInt8)) ([] : List V)))

def F15 : Nat → V → V → Option (V)
  | 0, _, _ => none
  | n + 1, a0, a1 => F15B (F15 n) n a0 a1

noncomputable def lay15 : Lay := layOf layL [(27, .clone 9 .str 16), (28, .clone 30 .value 88), (29, .borrow [.slice .str, .str] false), (30, .delete 9 .str), (31, .delete 30 .value)]
theorem lay15_ok : LayOK Try.prog lay15 := layOf_ok layAll (by
  intro p hp
  simp only [List.mem_cons, List.not_mem_nil, or_false] at hp
  rcases hp with rfl | rfl | rfl | rfl | rfl
  · exact clone27
  · exact clone28
  · exact trivial
  · exact delOK30
  · exact delOK31) layEq layKeys

noncomputable def c15 : Code := Try.f15.body.getD .skip

noncomputable def G15 (self : V → V → Option (V)) (n : Nat) : Ctx (Res [.value]) := ent 15 [.value, .value] [.value] (fun x => self x.1 x.2) (ent 29 [.slice .str, .str] [.int .i64] (fun x => F29 n x.1 x.2) (noFns))

theorem GO15 (self : V → V → Option (V)) (hs : Told Try.prog 15 [.value, .value] [.value] (fun x => self x.1 x.2)) (n : Nat) : CtxOK Try.prog lay15 (G15 self n) := ent_ok hs (fun _ _ h => h) (ent_ok (T29 n) (fun _ _ h => h) (noFns_ok))

noncomputable def P15 (self : V → V → Option (V)) (n : Nat) : Pl (Res [.value]) :=
  (.two .leaf (.two .leaf (.two .leaf (.join [.ptr (.tmp 3) 3 0, .ptr (.tmp 4) 4 0, .ptr (.tmp 5) 5 0, .val (.cell 3 0) (.int .i64), .val (.cell 3 1) .bool, .val (.cell 3 2) (.int .i64), .val (.cell 3 3) .str, .val (.cell 3 4) (.slice .str), .val (.cell 3 5) (.slice .value), .val (.cell 4 0) (.int .i64), .val (.cell 4 1) .bool, .val (.cell 4 2) (.int .i64), .val (.cell 4 3) .str, .vec (.cell 4 4) 20000000 9 .str, .vec (.cell 4 5) 20000001 30 .value, .val (.cell 5 0) (.int .i64), .val (.cell 5 1) .bool, .val (.cell 5 2) (.int .i64), .val (.cell 5 3) .str, .vec (.cell 5 4) 20000002 9 .str, .vec (.cell 5 5) 20000003 30 .value, .box 3 6, .box 4 6, .box 5 6] (fun x => F15j0 self n x.2.2.2.1 x.2.2.2.2.1 x.2.2.2.2.2.1 x.2.2.2.2.2.2.1 x.2.2.2.2.2.2.2.1 x.2.2.2.2.2.2.2.2.1 x.2.2.2.2.2.2.2.2.2.1 x.2.2.2.2.2.2.2.2.2.2.1 x.2.2.2.2.2.2.2.2.2.2.2.1 x.2.2.2.2.2.2.2.2.2.2.2.2.1 x.2.2.2.2.2.2.2.2.2.2.2.2.2.1 x.2.2.2.2.2.2.2.2.2.2.2.2.2.2.1 x.2.2.2.2.2.2.2.2.2.2.2.2.2.2.2.1 x.2.2.2.2.2.2.2.2.2.2.2.2.2.2.2.2.1 x.2.2.2.2.2.2.2.2.2.2.2.2.2.2.2.2.2.1 x.2.2.2.2.2.2.2.2.2.2.2.2.2.2.2.2.2.2.1 x.2.2.2.2.2.2.2.2.2.2.2.2.2.2.2.2.2.2.2.1 x.2.2.2.2.2.2.2.2.2.2.2.2.2.2.2.2.2.2.2.2.1) .leaf (.two (.two .leaf (.one (.loop [.ptr (.tmp 3) 3 0, .ptr (.tmp 4) 4 0, .ptr (.tmp 5) 5 0, .val (.tmp 26) (.slice .value), .val (.tmp 27) (.int .i64), .val (.tmp 28) (.int .i64), .val (.cell 3 0) (.int .i64), .val (.cell 3 1) .bool, .val (.cell 3 2) (.int .i64), .val (.cell 3 3) .str, .val (.cell 3 4) (.slice .str), .val (.cell 3 5) (.slice .value), .val (.cell 4 0) (.int .i64), .val (.cell 4 1) .bool, .val (.cell 4 2) (.int .i64), .val (.cell 4 3) .str, .vec (.cell 4 4) 20000000 9 .str, .vec (.cell 4 5) 20000001 30 .value, .val (.cell 5 0) (.int .i64), .val (.cell 5 1) .bool, .val (.cell 5 2) (.int .i64), .val (.cell 5 3) .str, .vec (.cell 5 4) 20000002 9 .str, .vec (.cell 5 5) 20000003 30 .value, .box 3 6, .box 4 6, .box 5 6] n (fun m x => F15l1 self n m x.2.2.2.1 x.2.2.2.2.1 x.2.2.2.2.2.1 x.2.2.2.2.2.2.1 x.2.2.2.2.2.2.2.1 x.2.2.2.2.2.2.2.2.1 x.2.2.2.2.2.2.2.2.2.1 x.2.2.2.2.2.2.2.2.2.2.1 x.2.2.2.2.2.2.2.2.2.2.2.1 x.2.2.2.2.2.2.2.2.2.2.2.2.1 x.2.2.2.2.2.2.2.2.2.2.2.2.2.1 x.2.2.2.2.2.2.2.2.2.2.2.2.2.2.1 x.2.2.2.2.2.2.2.2.2.2.2.2.2.2.2.1 x.2.2.2.2.2.2.2.2.2.2.2.2.2.2.2.2.1 x.2.2.2.2.2.2.2.2.2.2.2.2.2.2.2.2.2.1 x.2.2.2.2.2.2.2.2.2.2.2.2.2.2.2.2.2.2.1 x.2.2.2.2.2.2.2.2.2.2.2.2.2.2.2.2.2.2.2.1 x.2.2.2.2.2.2.2.2.2.2.2.2.2.2.2.2.2.2.2.2.1 x.2.2.2.2.2.2.2.2.2.2.2.2.2.2.2.2.2.2.2.2.2.1 x.2.2.2.2.2.2.2.2.2.2.2.2.2.2.2.2.2.2.2.2.2.2.1 x.2.2.2.2.2.2.2.2.2.2.2.2.2.2.2.2.2.2.2.2.2.2.2.1) (fun r => let rF15l1 : List V → Int → Int → Int → Bool → Int → List UInt8 → List (List UInt8) → List V → Int → Bool → Int → List UInt8 → List (List UInt8) → List V → Int → Bool → Int → List UInt8 → List (List UInt8) → List V → Option (V) := (fun y0 y1 y2 y3 y4 y5 y6 y7 y8 y9 y10 y11 y12 y13 y14 y15 y16 y17 y18 y19 y20 => r ((), (), (), y0, y1, y2, y3, y4, y5, y6, y7, y8, y9, y10, y11, y12, y13, y14, y15, y16, y17, y18, y19, y20, (), (), (), ())); (.two .leaf (.two .leaf (.two (.one (.two .leaf (.two .leaf (.two .leaf (.one (.two .leaf (.two .leaf (.join [.ptr (.tmp 3) 3 0, .ptr (.tmp 4) 4 0, .ptr (.tmp 5) 5 0, .val (.tmp 6) (.int .i64), .ptr (.tmp 7) 7 0, .val (.tmp 8) (.int .i64), .val (.tmp 26) (.slice .value), .val (.tmp 27) (.int .i64), .val (.tmp 28) (.int .i64), .val (.tmp 70) .bool, .val (.cell 3 0) (.int .i64), .val (.cell 3 1) .bool, .val (.cell 3 2) (.int .i64), .val (.cell 3 3) .str, .val (.cell 3 4) (.slice .str), .val (.cell 3 5) (.slice .value), .val (.cell 4 0) (.int .i64), .val (.cell 4 1) .bool, .val (.cell 4 2) (.int .i64), .val (.cell 4 3) .str, .vec (.cell 4 4) 20000000 9 .str, .vec (.cell 4 5) 20000001 30 .value, .val (.cell 5 0) (.int .i64), .val (.cell 5 1) .bool, .val (.cell 5 2) (.int .i64), .val (.cell 5 3) .str, .vec (.cell 5 4) 20000002 9 .str, .vec (.cell 5 5) 20000003 30 .value, .val (.cell 7 0) (.int .i64), .val (.cell 7 1) .bool, .val (.cell 7 2) (.int .i64), .val (.cell 7 3) .str, .val (.cell 7 4) (.slice .str), .val (.cell 7 5) (.slice .value), .box 3 6, .box 4 6, .box 5 6, .box 7 6] (fun x => F15j2 self n rF15l1 x.2.2.2.1 x.2.2.2.2.2.1 x.2.2.2.2.2.2.1 x.2.2.2.2.2.2.2.1 x.2.2.2.2.2.2.2.2.1 x.2.2.2.2.2.2.2.2.2.1 x.2.2.2.2.2.2.2.2.2.2.1 x.2.2.2.2.2.2.2.2.2.2.2.1 x.2.2.2.2.2.2.2.2.2.2.2.2.1 x.2.2.2.2.2.2.2.2.2.2.2.2.2.1 x.2.2.2.2.2.2.2.2.2.2.2.2.2.2.1 x.2.2.2.2.2.2.2.2.2.2.2.2.2.2.2.1 x.2.2.2.2.2.2.2.2.2.2.2.2.2.2.2.2.1 x.2.2.2.2.2.2.2.2.2.2.2.2.2.2.2.2.2.1 x.2.2.2.2.2.2.2.2.2.2.2.2.2.2.2.2.2.2.1 x.2.2.2.2.2.2.2.2.2.2.2.2.2.2.2.2.2.2.2.1 x.2.2.2.2.2.2.2.2.2.2.2.2.2.2.2.2.2.2.2.2.1 x.2.2.2.2.2.2.2.2.2.2.2.2.2.2.2.2.2.2.2.2.2.1 x.2.2.2.2.2.2.2.2.2.2.2.2.2.2.2.2.2.2.2.2.2.2.1 x.2.2.2.2.2.2.2.2.2.2.2.2.2.2.2.2.2.2.2.2.2.2.2.1 x.2.2.2.2.2.2.2.2.2.2.2.2.2.2.2.2.2.2.2.2.2.2.2.2.1 x.2.2.2.2.2.2.2.2.2.2.2.2.2.2.2.2.2.2.2.2.2.2.2.2.2.1 x.2.2.2.2.2.2.2.2.2.2.2.2.2.2.2.2.2.2.2.2.2.2.2.2.2.2.1 x.2.2.2.2.2.2.2.2.2.2.2.2.2.2.2.2.2.2.2.2.2.2.2.2.2.2.2.1 x.2.2.2.2.2.2.2.2.2.2.2.2.2.2.2.2.2.2.2.2.2.2.2.2.2.2.2.2.1 x.2.2.2.2.2.2.2.2.2.2.2.2.2.2.2.2.2.2.2.2.2.2.2.2.2.2.2.2.2.1 x.2.2.2.2.2.2.2.2.2.2.2.2.2.2.2.2.2.2.2.2.2.2.2.2.2.2.2.2.2.2.1 x.2.2.2.2.2.2.2.2.2.2.2.2.2.2.2.2.2.2.2.2.2.2.2.2.2.2.2.2.2.2.2.1 x.2.2.2.2.2.2.2.2.2.2.2.2.2.2.2.2.2.2.2.2.2.2.2.2.2.2.2.2.2.2.2.2.1 x.2.2.2.2.2.2.2.2.2.2.2.2.2.2.2.2.2.2.2.2.2.2.2.2.2.2.2.2.2.2.2.2.2.1) .leaf .leaf)))))))) .leaf))))))) .leaf)))))

theorem K15 (self : V → V → Option (V)) (n : Nat) : PlOK (G15 self n) noInl lay15 112 (P15 self n) c15 (fnK lay15 [.cell 4 30] [.val .value, .val .value] [.val .value] [.value]) :=
  ⟨trivial, ⟨trivial, ⟨trivial, ⟨by kernel_rfl, fun x => by kernel_rfl, trivial, ⟨⟨trivial, ⟨by kernel_rfl, fun x => by kernel_rfl, fun m => ⟨fun x => by kernel_rfl, ⟨trivial, ⟨trivial, ⟨⟨trivial, ⟨trivial, ⟨trivial, ⟨trivial, ⟨trivial, ⟨by kernel_rfl, fun x => by kernel_rfl, trivial, trivial⟩⟩⟩⟩⟩⟩, trivial⟩⟩⟩⟩⟩⟩, trivial⟩⟩⟩⟩⟩

theorem E15 (self : V → V → Option (V)) (n : Nat) (a0 : V) (a1 : V) : F15B self n a0 a1 = fnE [.val .value, .val .value] (argDs [.value, .value] (a0, a1)) (fun st => ev (G15 self n) noInl lay15 112 c15 (P15 self n) st (fnK lay15 [.cell 4 30] [.val .value, .val .value] [.val .value] [.value])) := by kernel_rfl

theorem TB15 (self : V → V → Option (V)) (hs : Told Try.prog 15 [.value, .value] [.value] (fun x => self x.1 x.2)) (n : Nat) : Told Try.prog 15 [.value, .value] [.value] (fun x => F15B self n x.1 x.2) := by
  rintro ⟨a0, a1⟩ r h
  exact calls_plain (fn_sound lay15_ok mixed (rvs := [.cell 4 30]) (by kernel_rfl : Try.prog.funcs[15]? = some Try.f15) (by kernel_rfl : Try.f15.body = some c15) (by kernel_rfl) (by kernel_rfl) (by kernel_rfl) (GO15 self hs n) noInl_ok (K15 self n) ((E15 self n a0 a1).symm.trans h)) rfl rfl rfl rfl

theorem T15 : ∀ n : Nat, Told Try.prog 15 [.value, .value] [.value] (fun x => F15 n x.1 x.2)
  | 0 => fun _ _ h => by cases h
  | n + 1 => TB15 (F15 n) (T15 n) n

/-! ### orthoepy/orthoepyref26.Merge -/

def F16j2 (self : V → V → Option (V)) (n : Nat) (rF16l1 : Int → Int → Bool → Int → List UInt8 → List (List UInt8) → List V → Int → Bool → Int → List UInt8 → List (List UInt8) → List V → Int → Bool → Int → List UInt8 → List (List UInt8) → List V → Option (V)) (t6 : Int) (t7 : Int) (t78 : Bool) (b3_0 : Int) (b3_1 : Bool) (b3_2 : Int) (b3_3 : List UInt8) (b3_4 : List (List UInt8)) (b3_5 : List V) (b4_0 : Int) (b4_1 : Bool) (b4_2 : Int) (b4_3 : List UInt8) (b4_4 : List (List UInt8)) (b4_5 : List V) (b5_0 : Int) (b5_1 : Bool) (b5_2 : Int) (b5_3 : List UInt8) (b5_4 : List (List UInt8)) (b5_5 : List V) : Option (V) :=
  (bif t78 then
    (bif (cutB 0 t7 (b5_4).length && true) then
    (bif (decide (((([] : List (List UInt8))).length + ((((b5_4).drop (Int.toNat 0)).take (Int.toNat t7 - Int.toNat 0))).length) * 16 ≤ maxRoom) && decide ((([] : List (List UInt8))).length + ((((b5_4).drop (Int.toNat 0)).take (Int.toNat t7 - Int.toNat 0))).length ≤ maxRoom)) then
    (bif (cutB (IntKind.wrap .i64 (t7 + 1)) ((b5_4).length : Int) (b5_4).length && true) then
    (bif (decide ((((([] : List (List UInt8)) ++ (((b5_4).drop (Int.toNat 0)).take (Int.toNat t7 - Int.toNat 0)))).length + ((((b5_4).drop (Int.toNat (IntKind.wrap .i64 (t7 + 1)))).take (Int.toNat ((b5_4).length : Int) - Int.toNat (IntKind.wrap .i64 (t7 + 1))))).length) * 16 ≤ maxRoom) && decide (((([] : List (List UInt8)) ++ (((b5_4).drop (Int.toNat 0)).take (Int.toNat t7 - Int.toNat 0)))).length + ((((b5_4).drop (Int.toNat (IntKind.wrap .i64 (t7 + 1)))).take (Int.toNat ((b5_4).length : Int) - Int.toNat (IntKind.wrap .i64 (t7 + 1))))).length ≤ maxRoom)) then
    (bif (cutB 0 t7 (b5_5).length && true) then
    (bif (decide (((([] : List V)).length + ((((b5_5).drop (Int.toNat 0)).take (Int.toNat t7 - Int.toNat 0))).length) * 88 ≤ maxRoom) && decide ((([] : List V)).length + ((((b5_5).drop (Int.toNat 0)).take (Int.toNat t7 - Int.toNat 0))).length ≤ maxRoom)) then
    (bif (cutB (IntKind.wrap .i64 (t7 + 1)) ((b5_5).length : Int) (b5_5).length && true) then
    (bif (decide ((((([] : List V) ++ (((b5_5).drop (Int.toNat 0)).take (Int.toNat t7 - Int.toNat 0)))).length + ((((b5_5).drop (Int.toNat (IntKind.wrap .i64 (t7 + 1)))).take (Int.toNat ((b5_5).length : Int) - Int.toNat (IntKind.wrap .i64 (t7 + 1))))).length) * 88 ≤ maxRoom) && decide (((([] : List V) ++ (((b5_5).drop (Int.toNat 0)).take (Int.toNat t7 - Int.toNat 0)))).length + ((((b5_5).drop (Int.toNat (IntKind.wrap .i64 (t7 + 1)))).take (Int.toNat ((b5_5).length : Int) - Int.toNat (IntKind.wrap .i64 (t7 + 1))))).length ≤ maxRoom)) then
    rF16l1 (IntKind.wrap .i64 (t6 + 1)) b3_0 b3_1 b3_2 b3_3 b3_4 b3_5 b4_0 b4_1 b4_2 b4_3 b4_4 b4_5 b5_0 b5_1 b5_2 b5_3 ((([] : List (List UInt8)) ++ (((b5_4).drop (Int.toNat 0)).take (Int.toNat t7 - Int.toNat 0))) ++ (((b5_4).drop (Int.toNat (IntKind.wrap .i64 (t7 + 1)))).take (Int.toNat ((b5_4).length : Int) - Int.toNat (IntKind.wrap .i64 (t7 + 1))))) ((([] : List V) ++ (((b5_5).drop (Int.toNat 0)).take (Int.toNat t7 - Int.toNat 0))) ++ (((b5_5).drop (Int.toNat (IntKind.wrap .i64 (t7 + 1)))).take (Int.toNat ((b5_5).length : Int) - Int.toNat (IntKind.wrap .i64 (t7 + 1)))))
    else none)
    else none)
    else none)
    else none)
    else none)
    else none)
    else none)
    else none)
  else
    (bif inB t6 (b3_5).length then
    (bif (((b3_5).getD (Int.toNat t6) (Ty.dflt .value)).kind == 1) then
      rF16l1 (IntKind.wrap .i64 (t6 + 1)) b3_0 b3_1 b3_2 b3_3 b3_4 b3_5 b4_0 b4_1 b4_2 b4_3 b4_4 b4_5 b5_0 b5_1 b5_2 b5_3 b5_4 b5_5
    else
      (bif (decide (t7 ≥ 0)) then
        (bif (decide (((([] : List V)).length + (b5_5).length) * 88 ≤ maxRoom) && decide ((([] : List V)).length + (b5_5).length ≤ maxRoom)) then
        (bif inB t7 (b5_5).length then
        (bif inB t6 (b3_5).length then
        (match self ((b5_5).getD (Int.toNat t7) (Ty.dflt .value)) ((b3_5).getD (Int.toNat t6) (Ty.dflt .value)) with
        | some r1 =>
        (bif inB t7 ((([] : List V) ++ b5_5)).length then
        rF16l1 (IntKind.wrap .i64 (t6 + 1)) b3_0 b3_1 b3_2 b3_3 b3_4 b3_5 b4_0 b4_1 b4_2 b4_3 b4_4 b4_5 b5_0 b5_1 b5_2 b5_3 b5_4 (((([] : List V) ++ b5_5)).set (Int.toNat t7) r1)
        else none)
        | none => none)
        else none)
        else none)
        else none)
      else
        (bif inB t6 (b3_4).length then
        (bif (decide (((b5_4).length + (([((b3_4).getD (Int.toNat t6) (Ty.dflt .str))] : List (List UInt8))).length) * 16 ≤ maxRoom) && decide ((b5_4).length + (([((b3_4).getD (Int.toNat t6) (Ty.dflt .str))] : List (List UInt8))).length ≤ maxRoom)) then
        (bif inB t6 (b3_5).length then
        (match self (V.mk 0 false 0 ([] : List UInt8) ([] : List (List UInt8)) ([] : List V)) ((b3_5).getD (Int.toNat t6) (Ty.dflt .value)) with
        | some r2 =>
        (bif (decide (((b5_5).length + (([r2] : List V)).length) * 88 ≤ maxRoom) && decide ((b5_5).length + (([r2] : List V)).length ≤ maxRoom)) then
        rF16l1 (IntKind.wrap .i64 (t6 + 1)) b3_0 b3_1 b3_2 b3_3 b3_4 b3_5 b4_0 b4_1 b4_2 b4_3 b4_4 b4_5 b5_0 b5_1 b5_2 b5_3 (b5_4 ++ ([((b3_4).getD (Int.toNat t6) (Ty.dflt .str))] : List (List UInt8))) (b5_5 ++ ([r2] : List V))
        else none)
        | none => none)
        else none)
        else none)
        else none)))
    else none))

def F16l3F (self : V → V → Option (V)) (n : Nat) (rF16l1 : Int → Int → Bool → Int → List UInt8 → List (List UInt8) → List V → Int → Bool → Int → List UInt8 → List (List UInt8) → List V → Int → Bool → Int → List UInt8 → List (List UInt8) → List V → Option (V)) (rF16l3 : Int → Int → Int → Int → Bool → Int → List UInt8 → List (List UInt8) → List V → Int → Bool → Int → List UInt8 → List (List UInt8) → List V → Int → Bool → Int → List UInt8 → List (List UInt8) → List V → Option (V)) (t6 : Int) (t7 : Int) (t8 : Int) (b3_0 : Int) (b3_1 : Bool) (b3_2 : Int) (b3_3 : List UInt8) (b3_4 : List (List UInt8)) (b3_5 : List V) (b4_0 : Int) (b4_1 : Bool) (b4_2 : Int) (b4_3 : List UInt8) (b4_4 : List (List UInt8)) (b4_5 : List V) (b5_0 : Int) (b5_1 : Bool) (b5_2 : Int) (b5_3 : List UInt8) (b5_4 : List (List UInt8)) (b5_5 : List V) : Option (V) :=
  (bif (decide (t8 < ((b5_4).length : Int))) then
    (bif inB t8 (b5_4).length then
    (bif inB t6 (b3_4).length then
    (bif (((b5_4).getD (Int.toNat t8) (Ty.dflt .str)) == ((b3_4).getD (Int.toNat t6) (Ty.dflt .str))) then
      rF16l3 t6 t8 (IntKind.wrap .i64 (t8 + 1)) b3_0 b3_1 b3_2 b3_3 b3_4 b3_5 b4_0 b4_1 b4_2 b4_3 b4_4 b4_5 b5_0 b5_1 b5_2 b5_3 b5_4 b5_5
    else
      rF16l3 t6 t7 (IntKind.wrap .i64 (t8 + 1)) b3_0 b3_1 b3_2 b3_3 b3_4 b3_5 b4_0 b4_1 b4_2 b4_3 b4_4 b4_5 b5_0 b5_1 b5_2 b5_3 b5_4 b5_5)
    else none)
    else none)
  else
    (bif inB t6 (b3_5).length then
    (bif (((b3_5).getD (Int.toNat t6) (Ty.dflt .value)).kind == 1) then
      F16j2 self n rF16l1 t6 t7 (decide (t7 ≥ 0)) b3_0 b3_1 b3_2 b3_3 b3_4 b3_5 b4_0 b4_1 b4_2 b4_3 b4_4 b4_5 b5_0 b5_1 b5_2 b5_3 b5_4 b5_5
    else
      F16j2 self n rF16l1 t6 t7 false b3_0 b3_1 b3_2 b3_3 b3_4 b3_5 b4_0 b4_1 b4_2 b4_3 b4_4 b4_5 b5_0 b5_1 b5_2 b5_3 b5_4 b5_5)
    else none))
def F16l3 (self : V → V → Option (V)) (n : Nat) (rF16l1 : Int → Int → Bool → Int → List UInt8 → List (List UInt8) → List V → Int → Bool → Int → List UInt8 → List (List UInt8) → List V → Int → Bool → Int → List UInt8 → List (List UInt8) → List V → Option (V)) : Nat → Int → Int → Int → Int → Bool → Int → List UInt8 → List (List UInt8) → List V → Int → Bool → Int → List UInt8 → List (List UInt8) → List V → Int → Bool → Int → List UInt8 → List (List UInt8) → List V → Option (V)
  | 0, _, _, _, _, _, _, _, _, _, _, _, _, _, _, _, _, _, _, _, _, _ => none
  | m + 1, t6, t7, t8, b3_0, b3_1, b3_2, b3_3, b3_4, b3_5, b4_0, b4_1, b4_2, b4_3, b4_4, b4_5, b5_0, b5_1, b5_2, b5_3, b5_4, b5_5 => F16l3F self n rF16l1 (F16l3 self n rF16l1 m) t6 t7 t8 b3_0 b3_1 b3_2 b3_3 b3_4 b3_5 b4_0 b4_1 b4_2 b4_3 b4_4 b4_5 b5_0 b5_1 b5_2 b5_3 b5_4 b5_5

def F16l1F (self : V → V → Option (V)) (n : Nat) (rF16l1 : Int → Int → Bool → Int → List UInt8 → List (List UInt8) → List V → Int → Bool → Int → List UInt8 → List (List UInt8) → List V → Int → Bool → Int → List UInt8 → List (List UInt8) → List V → Option (V)) (t6 : Int) (b3_0 : Int) (b3_1 : Bool) (b3_2 : Int) (b3_3 : List UInt8) (b3_4 : List (List UInt8)) (b3_5 : List V) (b4_0 : Int) (b4_1 : Bool) (b4_2 : Int) (b4_3 : List UInt8) (b4_4 : List (List UInt8)) (b4_5 : List V) (b5_0 : Int) (b5_1 : Bool) (b5_2 : Int) (b5_3 : List UInt8) (b5_4 : List (List UInt8)) (b5_5 : List V) : Option (V) :=
  (bif (decide (t6 < ((b3_4).length : Int))) then
    F16l3 self n rF16l1 n t6 (-1) 0 b3_0 b3_1 b3_2 b3_3 b3_4 b3_5 b4_0 b4_1 b4_2 b4_3 b4_4 b4_5 b5_0 b5_1 b5_2 b5_3 b5_4 b5_5
  else
    some (V.mk b5_0 b5_1 b5_2 b5_3 b5_4 b5_5))
def F16l1 (self : V → V → Option (V)) (n : Nat) : Nat → Int → Int → Bool → Int → List UInt8 → List (List UInt8) → List V → Int → Bool → Int → List UInt8 → List (List UInt8) → List V → Int → Bool → Int → List UInt8 → List (List UInt8) → List V → Option (V)
  | 0, _, _, _, _, _, _, _, _, _, _, _, _, _, _, _, _, _, _, _ => none
  | m + 1, t6, b3_0, b3_1, b3_2, b3_3, b3_4, b3_5, b4_0, b4_1, b4_2, b4_3, b4_4, b4_5, b5_0, b5_1, b5_2, b5_3, b5_4, b5_5 => F16l1F self n (F16l1 self n m) t6 b3_0 b3_1 b3_2 b3_3 b3_4 b3_5 b4_0 b4_1 b4_2 b4_3 b4_4 b4_5 b5_0 b5_1 b5_2 b5_3 b5_4 b5_5

def F16j0 (self : V → V → Option (V)) (n : Nat) (b3_0 : Int) (b3_1 : Bool) (b3_2 : Int) (b3_3 : List UInt8) (b3_4 : List (List UInt8)) (b3_5 : List V) (b4_0 : Int) (b4_1 : Bool) (b4_2 : Int) (b4_3 : List UInt8) (b4_4 : List (List UInt8)) (b4_5 : List V) (b5_0 : Int) (b5_1 : Bool) (b5_2 : Int) (b5_3 : List UInt8) (b5_4 : List (List UInt8)) (b5_5 : List V) : Option (V) :=
  F16l1 self n n 0 b3_0 b3_1 b3_2 b3_3 b3_4 b3_5 b4_0 b4_1 b4_2 b4_3 b4_4 b4_5 b5_0 b5_1 b5_2 b5_3 b5_4 b5_5

def F16B (self : V → V → Option (V)) (n : Nat) (a0 : V) (a1 : V) : Option (V) :=
  (bif (a1.kind != 6) then
    some (V.mk a1.kind a1.b a1.n a1.s a1.names a1.kids)
  else
    (bif (a0.kind == 6) then
      (bif (decide ((a0.names).length * 16 ≤ maxRoom) && decide ((a0.names).length ≤ maxRoom)) then
      (bif (decide ((a0.kids).length * 88 ≤ maxRoom) && decide ((a0.kids).length ≤ maxRoom)) then
      F16j0 self n a1.kind a1.b a1.n a1.s a1.names a1.kids 0 false 0 ([] : List UInt8) ([] : List (List UInt8)) ([] : List V) 6 false 0 ([] : List UInt8) a0.names a0.kids
      else none)
      else none)
    else
      F16j0 self n a1.kind a1.b a1.n a1.s a1.names a1.kids 0 false 0 ([] : List UInt8) ([] : List (List UInt8)) ([] : List V) 6 false 0 ([] : List UInt8) ([] : List (List UInt8)) ([] : List V)))

def F16 : Nat → V → V → Option (V)
  | 0, _, _ => none
  | n + 1, a0, a1 => F16B (F16 n) n a0 a1

noncomputable def lay16 : Lay := layOf layL [] true
theorem lay16_ok : LayOK Try.prog lay16 := layOf_ok layAll (by simp) layEq layKeys

noncomputable def c16 : Code := Try.f16.body.getD .skip

noncomputable def G16 (self : V → V → Option (V)) (n : Nat) : Ctx (Res [.value]) := ent 16 [.value, .value] [.value] (fun x => self x.1 x.2) (noFns)

theorem GO16 (self : V → V → Option (V)) (hs : Told Try.prog 16 [.value, .value] [.value] (fun x => self x.1 x.2)) (n : Nat) : CtxOK Try.prog lay16 (G16 self n) := ent_ok hs (fun _ _ h => h) (noFns_ok)

noncomputable def P16 (self : V → V → Option (V)) (n : Nat) : Pl (Res [.value]) :=
  (.two .leaf (.two .leaf (.two .leaf (.join [.ptr (.tmp 3) 3 0, .ptr (.tmp 4) 4 0, .ptr (.tmp 5) 5 0, .val (.cell 3 0) (.int .i64), .val (.cell 3 1) .bool, .val (.cell 3 2) (.int .i64), .val (.cell 3 3) .str, .val (.cell 3 4) (.slice .str), .val (.cell 3 5) (.slice .value), .val (.cell 4 0) (.int .i64), .val (.cell 4 1) .bool, .val (.cell 4 2) (.int .i64), .val (.cell 4 3) .str, .vec (.cell 4 4) 20000000 9 .str, .vec (.cell 4 5) 20000001 30 .value, .val (.cell 5 0) (.int .i64), .val (.cell 5 1) .bool, .val (.cell 5 2) (.int .i64), .val (.cell 5 3) .str, .vec (.cell 5 4) 20000002 9 .str, .vec (.cell 5 5) 20000003 30 .value, .box 3 6, .box 4 6, .box 5 6] (fun x => F16j0 self n x.2.2.2.1 x.2.2.2.2.1 x.2.2.2.2.2.1 x.2.2.2.2.2.2.1 x.2.2.2.2.2.2.2.1 x.2.2.2.2.2.2.2.2.1 x.2.2.2.2.2.2.2.2.2.1 x.2.2.2.2.2.2.2.2.2.2.1 x.2.2.2.2.2.2.2.2.2.2.2.1 x.2.2.2.2.2.2.2.2.2.2.2.2.1 x.2.2.2.2.2.2.2.2.2.2.2.2.2.1 x.2.2.2.2.2.2.2.2.2.2.2.2.2.2.1 x.2.2.2.2.2.2.2.2.2.2.2.2.2.2.2.1 x.2.2.2.2.2.2.2.2.2.2.2.2.2.2.2.2.1 x.2.2.2.2.2.2.2.2.2.2.2.2.2.2.2.2.2.1 x.2.2.2.2.2.2.2.2.2.2.2.2.2.2.2.2.2.2.1 x.2.2.2.2.2.2.2.2.2.2.2.2.2.2.2.2.2.2.2.1 x.2.2.2.2.2.2.2.2.2.2.2.2.2.2.2.2.2.2.2.2.1) .leaf (.two (.two .leaf (.one (.loop [.ptr (.tmp 3) 3 0, .ptr (.tmp 4) 4 0, .ptr (.tmp 5) 5 0, .val (.tmp 6) (.int .i64), .val (.cell 3 0) (.int .i64), .val (.cell 3 1) .bool, .val (.cell 3 2) (.int .i64), .val (.cell 3 3) .str, .val (.cell 3 4) (.slice .str), .val (.cell 3 5) (.slice .value), .val (.cell 4 0) (.int .i64), .val (.cell 4 1) .bool, .val (.cell 4 2) (.int .i64), .val (.cell 4 3) .str, .vec (.cell 4 4) 20000000 9 .str, .vec (.cell 4 5) 20000001 30 .value, .val (.cell 5 0) (.int .i64), .val (.cell 5 1) .bool, .val (.cell 5 2) (.int .i64), .val (.cell 5 3) .str, .vec (.cell 5 4) 20000002 9 .str, .vec (.cell 5 5) 20000003 30 .value, .box 3 6, .box 4 6, .box 5 6] n (fun m x => F16l1 self n m x.2.2.2.1 x.2.2.2.2.1 x.2.2.2.2.2.1 x.2.2.2.2.2.2.1 x.2.2.2.2.2.2.2.1 x.2.2.2.2.2.2.2.2.1 x.2.2.2.2.2.2.2.2.2.1 x.2.2.2.2.2.2.2.2.2.2.1 x.2.2.2.2.2.2.2.2.2.2.2.1 x.2.2.2.2.2.2.2.2.2.2.2.2.1 x.2.2.2.2.2.2.2.2.2.2.2.2.2.1 x.2.2.2.2.2.2.2.2.2.2.2.2.2.2.1 x.2.2.2.2.2.2.2.2.2.2.2.2.2.2.2.1 x.2.2.2.2.2.2.2.2.2.2.2.2.2.2.2.2.1 x.2.2.2.2.2.2.2.2.2.2.2.2.2.2.2.2.2.1 x.2.2.2.2.2.2.2.2.2.2.2.2.2.2.2.2.2.2.1 x.2.2.2.2.2.2.2.2.2.2.2.2.2.2.2.2.2.2.2.1 x.2.2.2.2.2.2.2.2.2.2.2.2.2.2.2.2.2.2.2.2.1 x.2.2.2.2.2.2.2.2.2.2.2.2.2.2.2.2.2.2.2.2.2.1) (fun r => let rF16l1 : Int → Int → Bool → Int → List UInt8 → List (List UInt8) → List V → Int → Bool → Int → List UInt8 → List (List UInt8) → List V → Int → Bool → Int → List UInt8 → List (List UInt8) → List V → Option (V) := (fun y0 y1 y2 y3 y4 y5 y6 y7 y8 y9 y10 y11 y12 y13 y14 y15 y16 y17 y18 => r ((), (), (), y0, y1, y2, y3, y4, y5, y6, y7, y8, y9, y10, y11, y12, y13, y14, y15, y16, y17, y18, (), (), (), ())); (.two .leaf (.two (.one (.two .leaf (.two (.two .leaf (.one (.loop [.ptr (.tmp 3) 3 0, .ptr (.tmp 4) 4 0, .ptr (.tmp 5) 5 0, .val (.tmp 6) (.int .i64), .val (.tmp 7) (.int .i64), .val (.tmp 8) (.int .i64), .val (.cell 3 0) (.int .i64), .val (.cell 3 1) .bool, .val (.cell 3 2) (.int .i64), .val (.cell 3 3) .str, .val (.cell 3 4) (.slice .str), .val (.cell 3 5) (.slice .value), .val (.cell 4 0) (.int .i64), .val (.cell 4 1) .bool, .val (.cell 4 2) (.int .i64), .val (.cell 4 3) .str, .vec (.cell 4 4) 20000000 9 .str, .vec (.cell 4 5) 20000001 30 .value, .val (.cell 5 0) (.int .i64), .val (.cell 5 1) .bool, .val (.cell 5 2) (.int .i64), .val (.cell 5 3) .str, .vec (.cell 5 4) 20000002 9 .str, .vec (.cell 5 5) 20000003 30 .value, .box 3 6, .box 4 6, .box 5 6] n (fun m x => F16l3 self n rF16l1 m x.2.2.2.1 x.2.2.2.2.1 x.2.2.2.2.2.1 x.2.2.2.2.2.2.1 x.2.2.2.2.2.2.2.1 x.2.2.2.2.2.2.2.2.1 x.2.2.2.2.2.2.2.2.2.1 x.2.2.2.2.2.2.2.2.2.2.1 x.2.2.2.2.2.2.2.2.2.2.2.1 x.2.2.2.2.2.2.2.2.2.2.2.2.1 x.2.2.2.2.2.2.2.2.2.2.2.2.2.1 x.2.2.2.2.2.2.2.2.2.2.2.2.2.2.1 x.2.2.2.2.2.2.2.2.2.2.2.2.2.2.2.1 x.2.2.2.2.2.2.2.2.2.2.2.2.2.2.2.2.1 x.2.2.2.2.2.2.2.2.2.2.2.2.2.2.2.2.2.1 x.2.2.2.2.2.2.2.2.2.2.2.2.2.2.2.2.2.2.1 x.2.2.2.2.2.2.2.2.2.2.2.2.2.2.2.2.2.2.2.1 x.2.2.2.2.2.2.2.2.2.2.2.2.2.2.2.2.2.2.2.2.1 x.2.2.2.2.2.2.2.2.2.2.2.2.2.2.2.2.2.2.2.2.2.1 x.2.2.2.2.2.2.2.2.2.2.2.2.2.2.2.2.2.2.2.2.2.2.1 x.2.2.2.2.2.2.2.2.2.2.2.2.2.2.2.2.2.2.2.2.2.2.2.1) (fun _ => .leaf)))) (.one (.join [.ptr (.tmp 3) 3 0, .ptr (.tmp 4) 4 0, .ptr (.tmp 5) 5 0, .val (.tmp 6) (.int .i64), .val (.tmp 7) (.int .i64), .val (.tmp 78) .bool, .val (.cell 3 0) (.int .i64), .val (.cell 3 1) .bool, .val (.cell 3 2) (.int .i64), .val (.cell 3 3) .str, .val (.cell 3 4) (.slice .str), .val (.cell 3 5) (.slice .value), .val (.cell 4 0) (.int .i64), .val (.cell 4 1) .bool, .val (.cell 4 2) (.int .i64), .val (.cell 4 3) .str, .vec (.cell 4 4) 20000000 9 .str, .vec (.cell 4 5) 20000001 30 .value, .val (.cell 5 0) (.int .i64), .val (.cell 5 1) .bool, .val (.cell 5 2) (.int .i64), .val (.cell 5 3) .str, .vec (.cell 5 4) 20000002 9 .str, .vec (.cell 5 5) 20000003 30 .value, .box 3 6, .box 4 6, .box 5 6] (fun x => F16j2 self n rF16l1 x.2.2.2.1 x.2.2.2.2.1 x.2.2.2.2.2.1 x.2.2.2.2.2.2.1 x.2.2.2.2.2.2.2.1 x.2.2.2.2.2.2.2.2.1 x.2.2.2.2.2.2.2.2.2.1 x.2.2.2.2.2.2.2.2.2.2.1 x.2.2.2.2.2.2.2.2.2.2.2.1 x.2.2.2.2.2.2.2.2.2.2.2.2.1 x.2.2.2.2.2.2.2.2.2.2.2.2.2.1 x.2.2.2.2.2.2.2.2.2.2.2.2.2.2.1 x.2.2.2.2.2.2.2.2.2.2.2.2.2.2.2.1 x.2.2.2.2.2.2.2.2.2.2.2.2.2.2.2.2.1 x.2.2.2.2.2.2.2.2.2.2.2.2.2.2.2.2.2.1 x.2.2.2.2.2.2.2.2.2.2.2.2.2.2.2.2.2.2.1 x.2.2.2.2.2.2.2.2.2.2.2.2.2.2.2.2.2.2.2.1 x.2.2.2.2.2.2.2.2.2.2.2.2.2.2.2.2.2.2.2.2.1 x.2.2.2.2.2.2.2.2.2.2.2.2.2.2.2.2.2.2.2.2.2.1 x.2.2.2.2.2.2.2.2.2.2.2.2.2.2.2.2.2.2.2.2.2.2.1 x.2.2.2.2.2.2.2.2.2.2.2.2.2.2.2.2.2.2.2.2.2.2.2.1) .leaf (.two (.two (.shut [20000002]) (.shut [20000003])) .leaf)))))) .leaf)))))) .leaf)))))

theorem K16 (self : V → V → Option (V)) (n : Nat) : PlOK (G16 self n) noInl lay16 148 (P16 self n) c16 (fnK lay16 [.cell 4 30] [.val .value, .val .value] [.val .value] [.value]) :=
  ⟨trivial, ⟨trivial, ⟨trivial, ⟨by kernel_rfl, fun x => by kernel_rfl, trivial, ⟨⟨trivial, ⟨by kernel_rfl, fun x => by kernel_rfl, fun m => ⟨fun x => by kernel_rfl, ⟨trivial, ⟨⟨trivial, ⟨⟨trivial, ⟨by kernel_rfl, fun x => by kernel_rfl, fun m => ⟨fun x => by kernel_rfl, trivial⟩⟩⟩, ⟨by kernel_rfl, fun x => by kernel_rfl, trivial, ⟨⟨trivial, trivial⟩, trivial⟩⟩⟩⟩, trivial⟩⟩⟩⟩⟩, trivial⟩⟩⟩⟩⟩

theorem E16 (self : V → V → Option (V)) (n : Nat) (a0 : V) (a1 : V) : F16B self n a0 a1 = fnE [.val .value, .val .value] (argDs [.value, .value] (a0, a1)) (fun st => ev (G16 self n) noInl lay16 148 c16 (P16 self n) st (fnK lay16 [.cell 4 30] [.val .value, .val .value] [.val .value] [.value])) := by kernel_rfl

theorem TB16 (self : V → V → Option (V)) (hs : Told Try.prog 16 [.value, .value] [.value] (fun x => self x.1 x.2)) (n : Nat) : Told Try.prog 16 [.value, .value] [.value] (fun x => F16B self n x.1 x.2) := by
  rintro ⟨a0, a1⟩ r h
  exact calls_plain (fn_sound lay16_ok mixed (rvs := [.cell 4 30]) (by kernel_rfl : Try.prog.funcs[16]? = some Try.f16) (by kernel_rfl : Try.f16.body = some c16) (by kernel_rfl) (by kernel_rfl) (by kernel_rfl) (GO16 self hs n) noInl_ok (K16 self n) ((E16 self n a0 a1).symm.trans h)) rfl rfl rfl rfl

theorem T16 : ∀ n : Nat, Told Try.prog 16 [.value, .value] [.value] (fun x => F16 n x.1 x.2)
  | 0 => fun _ _ h => by cases h
  | n + 1 => TB16 (F16 n) (T16 n) n

/-! ### orthoepy/orthoepylaw00.small -/

def F32l2F (self : List Int → Int → Int → Option (V × Int)) (n : Nat) (rF32l2 : List Int → Int → Int → Int → List UInt8 → Int → Int → Bool → Int → List UInt8 → List (List UInt8) → List V → Int → Bool → Int → List UInt8 → List (List UInt8) → List V → Option (V × Int)) (t0 : List Int) (t1 : Int) (t2 : Int) (t8 : Int) (t10 : List UInt8) (t11 : Int) (b6_0 : Int) (b6_1 : Bool) (b6_2 : Int) (b6_3 : List UInt8) (b6_4 : List (List UInt8)) (b6_5 : List V) (b9_0 : Int) (b9_1 : Bool) (b9_2 : Int) (b9_3 : List UInt8) (b9_4 : List (List UInt8)) (b9_5 : List V) : Option (V × Int) :=
  (bif (!(6 == 0)) then
  (bif (!(5 == 0)) then
  (bif (decide (t11 < (Int.tmod (IntKind.wrap .i64 (Int.tdiv t8 6)) 5))) then
    (match self t0 t1 (IntKind.wrap .i64 (t2 - 1)) with
    | some r2 =>
    (bif (b9_0 == 6) then
      (bif (!(30 == 0)) then
      (bif (!(5 == 0)) then
      (bif ((inB (Int.tmod (IntKind.wrap .i64 ((IntKind.wrap .i64 (Int.tdiv t8 30)) + t11)) 5) 5 && true) && true) then
      (bif (decide (((b9_4).length + (([((([([97] : List UInt8), ([98] : List UInt8), ([99] : List UInt8), ([100] : List UInt8), t10] : List (List UInt8))).getD (Int.toNat (Int.tmod (IntKind.wrap .i64 ((IntKind.wrap .i64 (Int.tdiv t8 30)) + t11)) 5)) (Ty.dflt .str))] : List (List UInt8))).length) * 16 ≤ maxRoom) && decide ((b9_4).length + (([((([([97] : List UInt8), ([98] : List UInt8), ([99] : List UInt8), ([100] : List UInt8), t10] : List (List UInt8))).getD (Int.toNat (Int.tmod (IntKind.wrap .i64 ((IntKind.wrap .i64 (Int.tdiv t8 30)) + t11)) 5)) (Ty.dflt .str))] : List (List UInt8))).length ≤ maxRoom)) then
      (bif (decide (((b9_5).length + (([(V.mk r2.1.kind r2.1.b r2.1.n r2.1.s r2.1.names r2.1.kids)] : List V)).length) * 88 ≤ maxRoom) && decide ((b9_5).length + (([(V.mk r2.1.kind r2.1.b r2.1.n r2.1.s r2.1.names r2.1.kids)] : List V)).length ≤ maxRoom)) then
      rF32l2 t0 r2.2 t2 t8 t10 (IntKind.wrap .i64 (t11 + 1)) b6_0 b6_1 b6_2 b6_3 b6_4 b6_5 b9_0 b9_1 b9_2 b9_3 (b9_4 ++ ([((([([97] : List UInt8), ([98] : List UInt8), ([99] : List UInt8), ([100] : List UInt8), t10] : List (List UInt8))).getD (Int.toNat (Int.tmod (IntKind.wrap .i64 ((IntKind.wrap .i64 (Int.tdiv t8 30)) + t11)) 5)) (Ty.dflt .str))] : List (List UInt8))) (b9_5 ++ ([(V.mk r2.1.kind r2.1.b r2.1.n r2.1.s r2.1.names r2.1.kids)] : List V))
      else none)
      else none)
      else none)
      else none)
      else none)
    else
      (bif (decide (((b9_5).length + (([(V.mk r2.1.kind r2.1.b r2.1.n r2.1.s r2.1.names r2.1.kids)] : List V)).length) * 88 ≤ maxRoom) && decide ((b9_5).length + (([(V.mk r2.1.kind r2.1.b r2.1.n r2.1.s r2.1.names r2.1.kids)] : List V)).length ≤ maxRoom)) then
      rF32l2 t0 r2.2 t2 t8 t10 (IntKind.wrap .i64 (t11 + 1)) b6_0 b6_1 b6_2 b6_3 b6_4 b6_5 b9_0 b9_1 b9_2 b9_3 b9_4 (b9_5 ++ ([(V.mk r2.1.kind r2.1.b r2.1.n r2.1.s r2.1.names r2.1.kids)] : List V))
      else none))
    | none => none)
  else
    some ((V.mk b9_0 b9_1 b9_2 b9_3 b9_4 b9_5), t1))
  else none)
  else none)
def F32l2 (self : List Int → Int → Int → Option (V × Int)) (n : Nat) : Nat → List Int → Int → Int → Int → List UInt8 → Int → Int → Bool → Int → List UInt8 → List (List UInt8) → List V → Int → Bool → Int → List UInt8 → List (List UInt8) → List V → Option (V × Int)
  | 0, _, _, _, _, _, _, _, _, _, _, _, _, _, _, _, _, _, _ => none
  | m + 1, t0, t1, t2, t8, t10, t11, b6_0, b6_1, b6_2, b6_3, b6_4, b6_5, b9_0, b9_1, b9_2, b9_3, b9_4, b9_5 => F32l2F self n (F32l2 self n m) t0 t1 t2 t8 t10 t11 b6_0 b6_1 b6_2 b6_3 b6_4 b6_5 b9_0 b9_1 b9_2 b9_3 b9_4 b9_5

def F32j1 (self : List Int → Int → Int → Option (V × Int)) (n : Nat) (t0 : List Int) (t1 : Int) (t2 : Int) (t8 : Int) (b6_0 : Int) (b6_1 : Bool) (b6_2 : Int) (b6_3 : List UInt8) (b6_4 : List (List UInt8)) (b6_5 : List V) (b9_0 : Int) (b9_1 : Bool) (b9_2 : Int) (b9_3 : List UInt8) (b9_4 : List (List UInt8)) (b9_5 : List V) : Option (V × Int) :=
  (bif (!(150 == 0)) then
  (bif (!(2 == 0)) then
  (bif ((inB (Int.tmod (IntKind.wrap .i64 (Int.tdiv t8 150)) 2) 2 && true) && true) then
  F32l2 self n n t0 t1 t2 t8 ((([([195, 169] : List UInt8), ([101, 204, 129] : List UInt8)] : List (List UInt8))).getD (Int.toNat (Int.tmod (IntKind.wrap .i64 (Int.tdiv t8 150)) 2)) (Ty.dflt .str)) 0 b6_0 b6_1 b6_2 b6_3 b6_4 b6_5 b9_0 b9_1 b9_2 b9_3 b9_4 b9_5
  else none)
  else none)
  else none)

def F32j0 (self : List Int → Int → Int → Option (V × Int)) (n : Nat) (t0 : List Int) (t1 : Int) (t2 : Int) (t8 : Int) (b6_0 : Int) (b6_1 : Bool) (b6_2 : Int) (b6_3 : List UInt8) (b6_4 : List (List UInt8)) (b6_5 : List V) : Option (V × Int) :=
  (bif (t2 == 0) then
    (bif (!(6 == 0)) then
    (bif (!(4 == 0)) then
    (bif ((Int.tmod (IntKind.wrap .i64 (Int.tdiv t8 6)) 4) == 0) then
      some ((V.mk 1 false 0 ([] : List UInt8) ([] : List (List UInt8)) ([] : List V)), (IntKind.wrap .i64 (t1 + 1)))
    else
      (bif ((Int.tmod (IntKind.wrap .i64 (Int.tdiv t8 6)) 4) == 1) then
        (bif (!(24 == 0)) then
        (bif (!(3 == 0)) then
        some ((V.mk 3 false (Int.tmod (IntKind.wrap .i64 (Int.tdiv t8 24)) 3) ([] : List UInt8) ([] : List (List UInt8)) ([] : List V)), (IntKind.wrap .i64 (t1 + 1)))
        else none)
        else none)
      else
        (bif ((Int.tmod (IntKind.wrap .i64 (Int.tdiv t8 6)) 4) == 2) then
          (bif (!(24 == 0)) then
          (bif (!(2 == 0)) then
          some ((V.mk 2 ((Int.tmod (IntKind.wrap .i64 (Int.tdiv t8 24)) 2) == 0) 0 ([] : List UInt8) ([] : List (List UInt8)) ([] : List V)), (IntKind.wrap .i64 (t1 + 1)))
          else none)
          else none)
        else
          (bif (!(24 == 0)) then
          (bif (!(3 == 0)) then
          (bif ((inB (Int.tmod (IntKind.wrap .i64 (Int.tdiv t8 24)) 3) 3 && true) && true) then
          some ((V.mk 4 false 0 ((([([] : List UInt8), ([97] : List UInt8), ([195, 169] : List UInt8)] : List (List UInt8))).getD (Int.toNat (Int.tmod (IntKind.wrap .i64 (Int.tdiv t8 24)) 3)) (Ty.dflt .str)) ([] : List (List UInt8)) ([] : List V)), (IntKind.wrap .i64 (t1 + 1)))
          else none)
          else none)
          else none))))
    else none)
    else none)
  else
    (bif (!(6 == 0)) then
    (bif (decide ((Int.tmod t8 6) < 2)) then
      (bif (!(6 == 0)) then
      (bif (!(4 == 0)) then
      (bif ((Int.tmod (IntKind.wrap .i64 (Int.tdiv t8 6)) 4) == 0) then
        some ((V.mk 1 false 0 ([] : List UInt8) ([] : List (List UInt8)) ([] : List V)), (IntKind.wrap .i64 (t1 + 1)))
      else
        (bif ((Int.tmod (IntKind.wrap .i64 (Int.tdiv t8 6)) 4) == 1) then
          (bif (!(24 == 0)) then
          (bif (!(3 == 0)) then
          some ((V.mk 3 false (Int.tmod (IntKind.wrap .i64 (Int.tdiv t8 24)) 3) ([] : List UInt8) ([] : List (List UInt8)) ([] : List V)), (IntKind.wrap .i64 (t1 + 1)))
          else none)
          else none)
        else
          (bif ((Int.tmod (IntKind.wrap .i64 (Int.tdiv t8 6)) 4) == 2) then
            (bif (!(24 == 0)) then
            (bif (!(2 == 0)) then
            some ((V.mk 2 ((Int.tmod (IntKind.wrap .i64 (Int.tdiv t8 24)) 2) == 0) 0 ([] : List UInt8) ([] : List (List UInt8)) ([] : List V)), (IntKind.wrap .i64 (t1 + 1)))
            else none)
            else none)
          else
            (bif (!(24 == 0)) then
            (bif (!(3 == 0)) then
            (bif ((inB (Int.tmod (IntKind.wrap .i64 (Int.tdiv t8 24)) 3) 3 && true) && true) then
            some ((V.mk 4 false 0 ((([([] : List UInt8), ([97] : List UInt8), ([195, 169] : List UInt8)] : List (List UInt8))).getD (Int.toNat (Int.tmod (IntKind.wrap .i64 (Int.tdiv t8 24)) 3)) (Ty.dflt .str)) ([] : List (List UInt8)) ([] : List V)), (IntKind.wrap .i64 (t1 + 1)))
            else none)
            else none)
            else none))))
      else none)
      else none)
    else
      (bif (decide ((IntKind.wrap .i64 (t1 + 1)) > ((t0).length : Int))) then
        (bif (!(6 == 0)) then
        (bif (!(4 == 0)) then
        (bif ((Int.tmod (IntKind.wrap .i64 (Int.tdiv t8 6)) 4) == 0) then
          some ((V.mk 1 false 0 ([] : List UInt8) ([] : List (List UInt8)) ([] : List V)), (IntKind.wrap .i64 (t1 + 1)))
        else
          (bif ((Int.tmod (IntKind.wrap .i64 (Int.tdiv t8 6)) 4) == 1) then
            (bif (!(24 == 0)) then
            (bif (!(3 == 0)) then
            some ((V.mk 3 false (Int.tmod (IntKind.wrap .i64 (Int.tdiv t8 24)) 3) ([] : List UInt8) ([] : List (List UInt8)) ([] : List V)), (IntKind.wrap .i64 (t1 + 1)))
            else none)
            else none)
          else
            (bif ((Int.tmod (IntKind.wrap .i64 (Int.tdiv t8 6)) 4) == 2) then
              (bif (!(24 == 0)) then
              (bif (!(2 == 0)) then
              some ((V.mk 2 ((Int.tmod (IntKind.wrap .i64 (Int.tdiv t8 24)) 2) == 0) 0 ([] : List UInt8) ([] : List (List UInt8)) ([] : List V)), (IntKind.wrap .i64 (t1 + 1)))
              else none)
              else none)
            else
              (bif (!(24 == 0)) then
              (bif (!(3 == 0)) then
              (bif ((inB (Int.tmod (IntKind.wrap .i64 (Int.tdiv t8 24)) 3) 3 && true) && true) then
              some ((V.mk 4 false 0 ((([([] : List UInt8), ([97] : List UInt8), ([195, 169] : List UInt8)] : List (List UInt8))).getD (Int.toNat (Int.tmod (IntKind.wrap .i64 (Int.tdiv t8 24)) 3)) (Ty.dflt .str)) ([] : List (List UInt8)) ([] : List V)), (IntKind.wrap .i64 (t1 + 1)))
              else none)
              else none)
              else none))))
        else none)
        else none)
      else
        (bif (!(6 == 0)) then
        (bif ((Int.tmod t8 6) == 5) then
          F32j1 self n t0 (IntKind.wrap .i64 (t1 + 1)) t2 t8 b6_0 b6_1 b6_2 b6_3 b6_4 b6_5 5 false 0 ([] : List UInt8) ([] : List (List UInt8)) ([] : List V)
        else
          F32j1 self n t0 (IntKind.wrap .i64 (t1 + 1)) t2 t8 b6_0 b6_1 b6_2 b6_3 b6_4 b6_5 6 false 0 ([] : List UInt8) ([] : List (List UInt8)) ([] : List V))
        else none)))
    else none))

def F32B (self : List Int → Int → Int → Option (V × Int)) (n : Nat) (a0 : List Int) (a1 : Int) (a2 : Int) : Option (V × Int) :=
  (bif (decide (a1 < ((a0).length : Int))) then
    (bif inB a1 (a0).length then
    (match F23 n ((a0).getD (Int.toNat a1) (Ty.dflt (.int .i64))) 1099511627776 with
    | some r1 =>
    F32j0 self n a0 a1 a2 r1 0 false 0 ([] : List UInt8) ([] : List (List UInt8)) ([] : List V)
    | none => none)
    else none)
  else
    F32j0 self n a0 a1 a2 0 0 false 0 ([] : List UInt8) ([] : List (List UInt8)) ([] : List V))

def F32 : Nat → List Int → Int → Int → Option (V × Int)
  | 0, _, _, _ => none
  | n + 1, a0, a1, a2 => F32B (F32 n) n a0 a1 a2

noncomputable def c32 : Code := Try.f32.body.getD .skip

noncomputable def G32 (self : List Int → Int → Int → Option (V × Int)) (n : Nat) : Ctx (Res [.value, .int .i64]) := ent 23 [.int .i64, .int .i64] [.int .i64] (fun x => F23 n x.1 x.2) (ent 32 [.slice (.int .i64), .int .i64, .int .i64] [.value, .int .i64] (fun x => self x.1 x.2.1 x.2.2) (noFns))

theorem GO32 (self : List Int → Int → Int → Option (V × Int)) (hs : Told Try.prog 32 [.slice (.int .i64), .int .i64, .int .i64] [.value, .int .i64] (fun x => self x.1 x.2.1 x.2.2)) (n : Nat) : CtxOK Try.prog lay0 (G32 self n) := ent_ok (T23 n) (fun _ _ h => h) (ent_ok hs (fun _ _ h => h) (noFns_ok))

noncomputable def P32 (self : List Int → Int → Int → Option (V × Int)) (n : Nat) : Pl (Res [.value, .int .i64]) :=
  (.two .leaf (.two .leaf (.join [.val (.tmp 0) (.slice (.int .i64)), .val (.tmp 1) (.int .i64), .val (.tmp 2) (.int .i64), .ptr (.tmp 6) 6 0, .val (.tmp 8) (.int .i64), .val (.cell 6 0) (.int .i64), .val (.cell 6 1) .bool, .val (.cell 6 2) (.int .i64), .val (.cell 6 3) .str, .vec (.cell 6 4) 20000000 9 .str, .vec (.cell 6 5) 20000001 30 .value, .box 6 6] (fun x => F32j0 self n x.1 x.2.1 x.2.2.1 x.2.2.2.2.1 x.2.2.2.2.2.1 x.2.2.2.2.2.2.1 x.2.2.2.2.2.2.2.1 x.2.2.2.2.2.2.2.2.1 x.2.2.2.2.2.2.2.2.2.1 x.2.2.2.2.2.2.2.2.2.2.1) .leaf (.two .leaf (.two .leaf (.two .leaf (.join [.val (.tmp 0) (.slice (.int .i64)), .val (.tmp 1) (.int .i64), .val (.tmp 2) (.int .i64), .ptr (.tmp 6) 6 0, .val (.tmp 8) (.int .i64), .ptr (.tmp 9) 9 0, .val (.cell 6 0) (.int .i64), .val (.cell 6 1) .bool, .val (.cell 6 2) (.int .i64), .val (.cell 6 3) .str, .vec (.cell 6 4) 20000000 9 .str, .vec (.cell 6 5) 20000001 30 .value, .val (.cell 9 0) (.int .i64), .val (.cell 9 1) .bool, .val (.cell 9 2) (.int .i64), .val (.cell 9 3) .str, .vec (.cell 9 4) 20000002 9 .str, .vec (.cell 9 5) 20000003 30 .value, .box 6 6, .box 9 6] (fun x => F32j1 self n x.1 x.2.1 x.2.2.1 x.2.2.2.2.1 x.2.2.2.2.2.2.1 x.2.2.2.2.2.2.2.1 x.2.2.2.2.2.2.2.2.1 x.2.2.2.2.2.2.2.2.2.1 x.2.2.2.2.2.2.2.2.2.2.1 x.2.2.2.2.2.2.2.2.2.2.2.1 x.2.2.2.2.2.2.2.2.2.2.2.2.1 x.2.2.2.2.2.2.2.2.2.2.2.2.2.1 x.2.2.2.2.2.2.2.2.2.2.2.2.2.2.1 x.2.2.2.2.2.2.2.2.2.2.2.2.2.2.2.1 x.2.2.2.2.2.2.2.2.2.2.2.2.2.2.2.2.1 x.2.2.2.2.2.2.2.2.2.2.2.2.2.2.2.2.2.1) .leaf (.two .leaf (.two (.two .leaf (.one (.loop [.val (.tmp 0) (.slice (.int .i64)), .val (.tmp 1) (.int .i64), .val (.tmp 2) (.int .i64), .ptr (.tmp 6) 6 0, .val (.tmp 8) (.int .i64), .ptr (.tmp 9) 9 0, .val (.tmp 10) .str, .val (.tmp 11) (.int .i64), .val (.cell 6 0) (.int .i64), .val (.cell 6 1) .bool, .val (.cell 6 2) (.int .i64), .val (.cell 6 3) .str, .vec (.cell 6 4) 20000000 9 .str, .vec (.cell 6 5) 20000001 30 .value, .val (.cell 9 0) (.int .i64), .val (.cell 9 1) .bool, .val (.cell 9 2) (.int .i64), .val (.cell 9 3) .str, .vec (.cell 9 4) 20000002 9 .str, .vec (.cell 9 5) 20000003 30 .value, .box 6 6, .box 9 6] n (fun m x => F32l2 self n m x.1 x.2.1 x.2.2.1 x.2.2.2.2.1 x.2.2.2.2.2.2.1 x.2.2.2.2.2.2.2.1 x.2.2.2.2.2.2.2.2.1 x.2.2.2.2.2.2.2.2.2.1 x.2.2.2.2.2.2.2.2.2.2.1 x.2.2.2.2.2.2.2.2.2.2.2.1 x.2.2.2.2.2.2.2.2.2.2.2.2.1 x.2.2.2.2.2.2.2.2.2.2.2.2.2.1 x.2.2.2.2.2.2.2.2.2.2.2.2.2.2.1 x.2.2.2.2.2.2.2.2.2.2.2.2.2.2.2.1 x.2.2.2.2.2.2.2.2.2.2.2.2.2.2.2.2.1 x.2.2.2.2.2.2.2.2.2.2.2.2.2.2.2.2.2.1 x.2.2.2.2.2.2.2.2.2.2.2.2.2.2.2.2.2.2.1 x.2.2.2.2.2.2.2.2.2.2.2.2.2.2.2.2.2.2.2.1) (fun _ => .leaf)))) .leaf)))))))))

theorem K32 (self : List Int → Int → Int → Option (V × Int)) (n : Nat) : PlOK (G32 self n) noInl lay0 117 (P32 self n) c32 (fnK lay0 [.cell 6 30, .tmp 7] [.val (.slice (.int .i64)), .val (.int .i64), .val (.int .i64)] [.val .value, .val (.int .i64)] [.value, .int .i64]) :=
  ⟨trivial, ⟨trivial, ⟨by kernel_rfl, fun x => by kernel_rfl, trivial, ⟨trivial, ⟨trivial, ⟨trivial, ⟨by kernel_rfl, fun x => by kernel_rfl, trivial, ⟨trivial, ⟨⟨trivial, ⟨by kernel_rfl, fun x => by kernel_rfl, fun m => ⟨fun x => by kernel_rfl, trivial⟩⟩⟩, trivial⟩⟩⟩⟩⟩⟩⟩⟩⟩

theorem E32 (self : List Int → Int → Int → Option (V × Int)) (n : Nat) (a0 : List Int) (a1 : Int) (a2 : Int) : F32B self n a0 a1 a2 = fnE [.val (.slice (.int .i64)), .val (.int .i64), .val (.int .i64)] (argDs [.slice (.int .i64), .int .i64, .int .i64] (a0, a1, a2)) (fun st => ev (G32 self n) noInl lay0 117 c32 (P32 self n) st (fnK lay0 [.cell 6 30, .tmp 7] [.val (.slice (.int .i64)), .val (.int .i64), .val (.int .i64)] [.val .value, .val (.int .i64)] [.value, .int .i64])) := by kernel_rfl

theorem TB32 (self : List Int → Int → Int → Option (V × Int)) (hs : Told Try.prog 32 [.slice (.int .i64), .int .i64, .int .i64] [.value, .int .i64] (fun x => self x.1 x.2.1 x.2.2)) (n : Nat) : Told Try.prog 32 [.slice (.int .i64), .int .i64, .int .i64] [.value, .int .i64] (fun x => F32B self n x.1 x.2.1 x.2.2) := by
  rintro ⟨a0, a1, a2⟩ r h
  exact calls_plain (fn_sound lay0_ok mixed (rvs := [.cell 6 30, .tmp 7]) (by kernel_rfl : Try.prog.funcs[32]? = some Try.f32) (by kernel_rfl : Try.f32.body = some c32) (by kernel_rfl) (by kernel_rfl) (by kernel_rfl) (GO32 self hs n) noInl_ok (K32 self n) ((E32 self n a0 a1 a2).symm.trans h)) rfl rfl rfl rfl

theorem T32 : ∀ n : Nat, Told Try.prog 32 [.slice (.int .i64), .int .i64, .int .i64] [.value, .int .i64] (fun x => F32 n x.1 x.2.1 x.2.2)
  | 0 => fun _ _ h => by cases h
  | n + 1 => TB32 (F32 n) (T32 n) n

/-! ### orthoepy/orthoepylaw00.Small -/

def F17 (n : Nat) (a0 : List Int) : Option (V) :=
  (match F32 n a0 0 4 with
  | some r1 =>
  some (V.mk r1.1.kind r1.1.b r1.1.n r1.1.s r1.1.names r1.1.kids)
  | none => none)

noncomputable def c17 : Code := Try.f17.body.getD .skip

noncomputable def G17 (n : Nat) : Ctx (Res [.value]) := ent 32 [.slice (.int .i64), .int .i64, .int .i64] [.value, .int .i64] (fun x => F32 n x.1 x.2.1 x.2.2) (noFns)

theorem GO17 (n : Nat) : CtxOK Try.prog lay0 (G17 n) := ent_ok (T32 n) (fun _ _ h => h) (noFns_ok)

noncomputable def P17 (n : Nat) : Pl (Res [.value]) :=
  .leaf

theorem K17 (n : Nat) : PlOK (G17 n) noInl lay0 11 (P17 n) c17 (fnK lay0 [.cell 2 30] [.val (.slice (.int .i64))] [.val .value] [.value]) :=
  trivial

theorem E17 (n : Nat) (a0 : List Int) : F17 n a0 = fnE [.val (.slice (.int .i64))] (argDs [.slice (.int .i64)] (a0)) (fun st => ev (G17 n) noInl lay0 11 c17 (P17 n) st (fnK lay0 [.cell 2 30] [.val (.slice (.int .i64))] [.val .value] [.value])) := by kernel_rfl

theorem T17 (n : Nat) : Told Try.prog 17 [.slice (.int .i64)] [.value] (fun x => F17 n x) := by
  rintro a0 r h
  exact calls_plain (fn_sound lay0_ok mixed (rvs := [.cell 2 30]) (by kernel_rfl : Try.prog.funcs[17]? = some Try.f17) (by kernel_rfl : Try.f17.body = some c17) (by kernel_rfl) (by kernel_rfl) (by kernel_rfl) (GO17 n) noInl_ok (K17 n) ((E17 n a0).symm.trans h)) rfl rfl rfl rfl

/-! ### orthoepy/orthoepylaw26.member -/

def F18l0F (n : Nat) (rF18l0 : List UInt8 → Int → Int → Bool → Int → List UInt8 → List (List UInt8) → List V → Option (Int)) (t1 : List UInt8) (t5 : Int) (b2_0 : Int) (b2_1 : Bool) (b2_2 : Int) (b2_3 : List UInt8) (b2_4 : List (List UInt8)) (b2_5 : List V) : Option (Int) :=
  (bif (decide (t5 < ((b2_4).length : Int))) then
    (bif (b2_0 == 6) then
      (bif inB t5 (b2_4).length then
      (bif (((b2_4).getD (Int.toNat t5) (Ty.dflt .str)) == t1) then
        some t5
      else
        rF18l0 t1 (IntKind.wrap .i64 (t5 + 1)) b2_0 b2_1 b2_2 b2_3 b2_4 b2_5)
      else none)
    else
      some (-1))
  else
    some (-1))
def F18l0 (n : Nat) : Nat → List UInt8 → Int → Int → Bool → Int → List UInt8 → List (List UInt8) → List V → Option (Int)
  | 0, _, _, _, _, _, _, _, _ => none
  | m + 1, t1, t5, b2_0, b2_1, b2_2, b2_3, b2_4, b2_5 => F18l0F n (F18l0 n m) t1 t5 b2_0 b2_1 b2_2 b2_3 b2_4 b2_5

def F18 (n : Nat) (a0 : V) (a1 : List UInt8) : Option (Int) :=
  F18l0 n n a1 0 a0.kind a0.b a0.n a0.s a0.names a0.kids

noncomputable def c18 : Code := Try.f18.body.getD .skip

noncomputable def G18 (n : Nat) : Ctx (Res [.int .i64]) := noFns

theorem GO18 (n : Nat) : CtxOK Try.prog lay0 (G18 n) := noFns_ok

noncomputable def P18 (n : Nat) : Pl (Res [.int .i64]) :=
  (.two .leaf (.two (.two .leaf (.one (.loop [.val (.tmp 1) .str, .ptr (.tmp 2) 2 0, .val (.tmp 5) (.int .i64), .val (.cell 2 0) (.int .i64), .val (.cell 2 1) .bool, .val (.cell 2 2) (.int .i64), .val (.cell 2 3) .str, .val (.cell 2 4) (.slice .str), .val (.cell 2 5) (.slice .value), .box 2 6] n (fun m x => F18l0 n m x.1 x.2.2.1 x.2.2.2.1 x.2.2.2.2.1 x.2.2.2.2.2.1 x.2.2.2.2.2.2.1 x.2.2.2.2.2.2.2.1 x.2.2.2.2.2.2.2.2.1) (fun _ => .leaf)))) .leaf))

theorem K18 (n : Nat) : PlOK (G18 n) noInl lay0 26 (P18 n) c18 (fnK lay0 [.tmp 4] [.val .value, .val .str] [.val (.int .i64)] [.int .i64]) :=
  ⟨trivial, ⟨⟨trivial, ⟨by kernel_rfl, fun x => by kernel_rfl, fun m => ⟨fun x => by kernel_rfl, trivial⟩⟩⟩, trivial⟩⟩

theorem E18 (n : Nat) (a0 : V) (a1 : List UInt8) : F18 n a0 a1 = fnE [.val .value, .val .str] (argDs [.value, .str] (a0, a1)) (fun st => ev (G18 n) noInl lay0 26 c18 (P18 n) st (fnK lay0 [.tmp 4] [.val .value, .val .str] [.val (.int .i64)] [.int .i64])) := by kernel_rfl

theorem T18 (n : Nat) : Told Try.prog 18 [.value, .str] [.int .i64] (fun x => F18 n x.1 x.2) := by
  rintro ⟨a0, a1⟩ r h
  exact calls_plain (fn_sound lay0_ok mixed (rvs := [.tmp 4]) (by kernel_rfl : Try.prog.funcs[18]? = some Try.f18) (by kernel_rfl : Try.f18.body = some c18) (by kernel_rfl) (by kernel_rfl) (by kernel_rfl) (GO18 n) noInl_ok (K18 n) ((E18 n a0 a1).symm.trans h)) rfl rfl rfl rfl

/-! ### orthoepy/orthoepylaw26.bare -/

def F19l0F (self : V → Option (V)) (n : Nat) (rF19l0 : Int → Int → Bool → Int → List UInt8 → List (List UInt8) → List V → Int → Bool → Int → List UInt8 → List (List UInt8) → List V → Int → Bool → Int → List UInt8 → List (List UInt8) → List V → Option (V)) (t4 : Int) (b1_0 : Int) (b1_1 : Bool) (b1_2 : Int) (b1_3 : List UInt8) (b1_4 : List (List UInt8)) (b1_5 : List V) (b2_0 : Int) (b2_1 : Bool) (b2_2 : Int) (b2_3 : List UInt8) (b2_4 : List (List UInt8)) (b2_5 : List V) (b3_0 : Int) (b3_1 : Bool) (b3_2 : Int) (b3_3 : List UInt8) (b3_4 : List (List UInt8)) (b3_5 : List V) : Option (V) :=
  (bif (decide (t4 < ((b1_5).length : Int))) then
    (bif inB t4 (b1_5).length then
    (bif (((b1_5).getD (Int.toNat t4) (Ty.dflt .value)).kind != 1) then
      (bif inB t4 (b1_4).length then
      (bif (decide (((b3_4).length + (([((b1_4).getD (Int.toNat t4) (Ty.dflt .str))] : List (List UInt8))).length) * 16 ≤ maxRoom) && decide ((b3_4).length + (([((b1_4).getD (Int.toNat t4) (Ty.dflt .str))] : List (List UInt8))).length ≤ maxRoom)) then
      (bif inB t4 (b1_5).length then
      (match self ((b1_5).getD (Int.toNat t4) (Ty.dflt .value)) with
      | some r1 =>
      (bif (decide (((b3_5).length + (([r1] : List V)).length) * 88 ≤ maxRoom) && decide ((b3_5).length + (([r1] : List V)).length ≤ maxRoom)) then
      rF19l0 (IntKind.wrap .i64 (t4 + 1)) b1_0 b1_1 b1_2 b1_3 b1_4 b1_5 b2_0 b2_1 b2_2 b2_3 b2_4 b2_5 b3_0 b3_1 b3_2 b3_3 (b3_4 ++ ([((b1_4).getD (Int.toNat t4) (Ty.dflt .str))] : List (List UInt8))) (b3_5 ++ ([r1] : List V))
      else none)
      | none => none)
      else none)
      else none)
      else none)
    else
      rF19l0 (IntKind.wrap .i64 (t4 + 1)) b1_0 b1_1 b1_2 b1_3 b1_4 b1_5 b2_0 b2_1 b2_2 b2_3 b2_4 b2_5 b3_0 b3_1 b3_2 b3_3 b3_4 b3_5)
    else none)
  else
    some (V.mk b3_0 b3_1 b3_2 b3_3 b3_4 b3_5))
def F19l0 (self : V → Option (V)) (n : Nat) : Nat → Int → Int → Bool → Int → List UInt8 → List (List UInt8) → List V → Int → Bool → Int → List UInt8 → List (List UInt8) → List V → Int → Bool → Int → List UInt8 → List (List UInt8) → List V → Option (V)
  | 0, _, _, _, _, _, _, _, _, _, _, _, _, _, _, _, _, _, _, _ => none
  | m + 1, t4, b1_0, b1_1, b1_2, b1_3, b1_4, b1_5, b2_0, b2_1, b2_2, b2_3, b2_4, b2_5, b3_0, b3_1, b3_2, b3_3, b3_4, b3_5 => F19l0F self n (F19l0 self n m) t4 b1_0 b1_1 b1_2 b1_3 b1_4 b1_5 b2_0 b2_1 b2_2 b2_3 b2_4 b2_5 b3_0 b3_1 b3_2 b3_3 b3_4 b3_5

def F19B (self : V → Option (V)) (n : Nat) (a0 : V) : Option (V) :=
  (bif (a0.kind != 6) then
    some (V.mk a0.kind a0.b a0.n a0.s a0.names a0.kids)
  else
    F19l0 self n n 0 a0.kind a0.b a0.n a0.s a0.names a0.kids 0 false 0 ([] : List UInt8) ([] : List (List UInt8)) ([] : List V) 6 false 0 ([] : List UInt8) ([] : List (List UInt8)) ([] : List V))

def F19 : Nat → V → Option (V)
  | 0, _ => none
  | n + 1, a0 => F19B (F19 n) n a0

noncomputable def c19 : Code := Try.f19.body.getD .skip

noncomputable def G19 (self : V → Option (V)) (n : Nat) : Ctx (Res [.value]) := ent 19 [.value] [.value] (fun x => self x) (noFns)

theorem GO19 (self : V → Option (V)) (hs : Told Try.prog 19 [.value] [.value] (fun x => self x)) (n : Nat) : CtxOK Try.prog lay0 (G19 self n) := ent_ok hs (fun _ _ h => h) (noFns_ok)

noncomputable def P19 (self : V → Option (V)) (n : Nat) : Pl (Res [.value]) :=
  (.two .leaf (.two .leaf (.two .leaf (.two (.two .leaf (.one (.loop [.ptr (.tmp 1) 1 0, .ptr (.tmp 2) 2 0, .ptr (.tmp 3) 3 0, .val (.tmp 4) (.int .i64), .val (.cell 1 0) (.int .i64), .val (.cell 1 1) .bool, .val (.cell 1 2) (.int .i64), .val (.cell 1 3) .str, .val (.cell 1 4) (.slice .str), .val (.cell 1 5) (.slice .value), .val (.cell 2 0) (.int .i64), .val (.cell 2 1) .bool, .val (.cell 2 2) (.int .i64), .val (.cell 2 3) .str, .vec (.cell 2 4) 20000000 9 .str, .vec (.cell 2 5) 20000001 30 .value, .val (.cell 3 0) (.int .i64), .val (.cell 3 1) .bool, .val (.cell 3 2) (.int .i64), .val (.cell 3 3) .str, .vec (.cell 3 4) 20000002 9 .str, .vec (.cell 3 5) 20000003 30 .value, .box 1 6, .box 2 6, .box 3 6] n (fun m x => F19l0 self n m x.2.2.2.1 x.2.2.2.2.1 x.2.2.2.2.2.1 x.2.2.2.2.2.2.1 x.2.2.2.2.2.2.2.1 x.2.2.2.2.2.2.2.2.1 x.2.2.2.2.2.2.2.2.2.1 x.2.2.2.2.2.2.2.2.2.2.1 x.2.2.2.2.2.2.2.2.2.2.2.1 x.2.2.2.2.2.2.2.2.2.2.2.2.1 x.2.2.2.2.2.2.2.2.2.2.2.2.2.1 x.2.2.2.2.2.2.2.2.2.2.2.2.2.2.1 x.2.2.2.2.2.2.2.2.2.2.2.2.2.2.2.1 x.2.2.2.2.2.2.2.2.2.2.2.2.2.2.2.2.1 x.2.2.2.2.2.2.2.2.2.2.2.2.2.2.2.2.2.1 x.2.2.2.2.2.2.2.2.2.2.2.2.2.2.2.2.2.2.1 x.2.2.2.2.2.2.2.2.2.2.2.2.2.2.2.2.2.2.2.1 x.2.2.2.2.2.2.2.2.2.2.2.2.2.2.2.2.2.2.2.2.1 x.2.2.2.2.2.2.2.2.2.2.2.2.2.2.2.2.2.2.2.2.2.1) (fun _ => .leaf)))) .leaf))))

theorem K19 (self : V → Option (V)) (n : Nat) : PlOK (G19 self n) noInl lay0 46 (P19 self n) c19 (fnK lay0 [.cell 2 30] [.val .value] [.val .value] [.value]) :=
  ⟨trivial, ⟨trivial, ⟨trivial, ⟨⟨trivial, ⟨by kernel_rfl, fun x => by kernel_rfl, fun m => ⟨fun x => by kernel_rfl, trivial⟩⟩⟩, trivial⟩⟩⟩⟩

theorem E19 (self : V → Option (V)) (n : Nat) (a0 : V) : F19B self n a0 = fnE [.val .value] (argDs [.value] (a0)) (fun st => ev (G19 self n) noInl lay0 46 c19 (P19 self n) st (fnK lay0 [.cell 2 30] [.val .value] [.val .value] [.value])) := by kernel_rfl

theorem TB19 (self : V → Option (V)) (hs : Told Try.prog 19 [.value] [.value] (fun x => self x)) (n : Nat) : Told Try.prog 19 [.value] [.value] (fun x => F19B self n x) := by
  rintro a0 r h
  exact calls_plain (fn_sound lay0_ok mixed (rvs := [.cell 2 30]) (by kernel_rfl : Try.prog.funcs[19]? = some Try.f19) (by kernel_rfl : Try.f19.body = some c19) (by kernel_rfl) (by kernel_rfl) (by kernel_rfl) (GO19 self hs n) noInl_ok (K19 self n) ((E19 self n a0).symm.trans h)) rfl rfl rfl rfl

theorem T19 : ∀ n : Nat, Told Try.prog 19 [.value] [.value] (fun x => F19 n x)
  | 0 => fun _ _ h => by cases h
  | n + 1 => TB19 (F19 n) (T19 n) n

/-! ### orthoepy/orthoepylaw26.diff -/

def F20j3 (self : V → V → Option (V)) (n : Nat) (rF20l2 : Int → Int → Bool → Int → List UInt8 → List (List UInt8) → List V → Int → Bool → Int → List UInt8 → List (List UInt8) → List V → Int → Bool → Int → List UInt8 → List (List UInt8) → List V → Int → Bool → Int → List UInt8 → List (List UInt8) → List V → Option (V)) (t7 : Int) (b2_0 : Int) (b2_1 : Bool) (b2_2 : Int) (b2_3 : List UInt8) (b2_4 : List (List UInt8)) (b2_5 : List V) (b3_0 : Int) (b3_1 : Bool) (b3_2 : Int) (b3_3 : List UInt8) (b3_4 : List (List UInt8)) (b3_5 : List V) (b4_0 : Int) (b4_1 : Bool) (b4_2 : Int) (b4_3 : List UInt8) (b4_4 : List (List UInt8)) (b4_5 : List V) (b5_0 : Int) (b5_1 : Bool) (b5_2 : Int) (b5_3 : List UInt8) (b5_4 : List (List UInt8)) (b5_5 : List V) (b8_0 : Int) (b8_1 : Bool) (b8_2 : Int) (b8_3 : List UInt8) (b8_4 : List (List UInt8)) (b8_5 : List V) : Option (V) :=
  (bif inB t7 (b3_4).length then
  (bif (decide (((b5_4).length + (([((b3_4).getD (Int.toNat t7) (Ty.dflt .str))] : List (List UInt8))).length) * 16 ≤ maxRoom) && decide ((b5_4).length + (([((b3_4).getD (Int.toNat t7) (Ty.dflt .str))] : List (List UInt8))).length ≤ maxRoom)) then
  (bif inB t7 (b3_5).length then
  (match self (V.mk b8_0 b8_1 b8_2 b8_3 b8_4 b8_5) ((b3_5).getD (Int.toNat t7) (Ty.dflt .value)) with
  | some r3 =>
  (bif (decide (((b5_5).length + (([r3] : List V)).length) * 88 ≤ maxRoom) && decide ((b5_5).length + (([r3] : List V)).length ≤ maxRoom)) then
  rF20l2 (IntKind.wrap .i64 (t7 + 1)) b2_0 b2_1 b2_2 b2_3 b2_4 b2_5 b3_0 b3_1 b3_2 b3_3 b3_4 b3_5 b4_0 b4_1 b4_2 b4_3 b4_4 b4_5 b5_0 b5_1 b5_2 b5_3 (b5_4 ++ ([((b3_4).getD (Int.toNat t7) (Ty.dflt .str))] : List (List UInt8))) (b5_5 ++ ([r3] : List V))
  else none)
  | none => none)
  else none)
  else none)
  else none)

def F20l2F (self : V → V → Option (V)) (n : Nat) (rF20l2 : Int → Int → Bool → Int → List UInt8 → List (List UInt8) → List V → Int → Bool → Int → List UInt8 → List (List UInt8) → List V → Int → Bool → Int → List UInt8 → List (List UInt8) → List V → Int → Bool → Int → List UInt8 → List (List UInt8) → List V → Option (V)) (t7 : Int) (b2_0 : Int) (b2_1 : Bool) (b2_2 : Int) (b2_3 : List UInt8) (b2_4 : List (List UInt8)) (b2_5 : List V) (b3_0 : Int) (b3_1 : Bool) (b3_2 : Int) (b3_3 : List UInt8) (b3_4 : List (List UInt8)) (b3_5 : List V) (b4_0 : Int) (b4_1 : Bool) (b4_2 : Int) (b4_3 : List UInt8) (b4_4 : List (List UInt8)) (b4_5 : List V) (b5_0 : Int) (b5_1 : Bool) (b5_2 : Int) (b5_3 : List UInt8) (b5_4 : List (List UInt8)) (b5_5 : List V) : Option (V) :=
  (bif (decide (t7 < ((b3_4).length : Int))) then
    (bif inB t7 (b3_4).length then
    (match F18 n (V.mk b2_0 b2_1 b2_2 b2_3 b2_4 b2_5) ((b3_4).getD (Int.toNat t7) (Ty.dflt .str)) with
    | some r2 =>
    (bif (decide (r2 ≥ 0)) then
      (bif inB r2 (b2_5).length then
      F20j3 self n rF20l2 t7 b2_0 b2_1 b2_2 b2_3 b2_4 b2_5 b3_0 b3_1 b3_2 b3_3 b3_4 b3_5 b4_0 b4_1 b4_2 b4_3 b4_4 b4_5 b5_0 b5_1 b5_2 b5_3 b5_4 b5_5 ((b2_5).getD (Int.toNat r2) (Ty.dflt .value)).kind ((b2_5).getD (Int.toNat r2) (Ty.dflt .value)).b ((b2_5).getD (Int.toNat r2) (Ty.dflt .value)).n ((b2_5).getD (Int.toNat r2) (Ty.dflt .value)).s ((b2_5).getD (Int.toNat r2) (Ty.dflt .value)).names ((b2_5).getD (Int.toNat r2) (Ty.dflt .value)).kids
      else none)
    else
      F20j3 self n rF20l2 t7 b2_0 b2_1 b2_2 b2_3 b2_4 b2_5 b3_0 b3_1 b3_2 b3_3 b3_4 b3_5 b4_0 b4_1 b4_2 b4_3 b4_4 b4_5 b5_0 b5_1 b5_2 b5_3 b5_4 b5_5 0 false 0 ([] : List UInt8) ([] : List (List UInt8)) ([] : List V))
    | none => none)
    else none)
  else
    some (V.mk b5_0 b5_1 b5_2 b5_3 b5_4 b5_5))
def F20l2 (self : V → V → Option (V)) (n : Nat) : Nat → Int → Int → Bool → Int → List UInt8 → List (List UInt8) → List V → Int → Bool → Int → List UInt8 → List (List UInt8) → List V → Int → Bool → Int → List UInt8 → List (List UInt8) → List V → Int → Bool → Int → List UInt8 → List (List UInt8) → List V → Option (V)
  | 0, _, _, _, _, _, _, _, _, _, _, _, _, _, _, _, _, _, _, _, _, _, _, _, _, _ => none
  | m + 1, t7, b2_0, b2_1, b2_2, b2_3, b2_4, b2_5, b3_0, b3_1, b3_2, b3_3, b3_4, b3_5, b4_0, b4_1, b4_2, b4_3, b4_4, b4_5, b5_0, b5_1, b5_2, b5_3, b5_4, b5_5 => F20l2F self n (F20l2 self n m) t7 b2_0 b2_1 b2_2 b2_3 b2_4 b2_5 b3_0 b3_1 b3_2 b3_3 b3_4 b3_5 b4_0 b4_1 b4_2 b4_3 b4_4 b4_5 b5_0 b5_1 b5_2 b5_3 b5_4 b5_5

def F20j0 (self : V → V → Option (V)) (n : Nat) (b2_0 : Int) (b2_1 : Bool) (b2_2 : Int) (b2_3 : List UInt8) (b2_4 : List (List UInt8)) (b2_5 : List V) (b3_0 : Int) (b3_1 : Bool) (b3_2 : Int) (b3_3 : List UInt8) (b3_4 : List (List UInt8)) (b3_5 : List V) (b4_0 : Int) (b4_1 : Bool) (b4_2 : Int) (b4_3 : List UInt8) (b4_4 : List (List UInt8)) (b4_5 : List V) (b5_0 : Int) (b5_1 : Bool) (b5_2 : Int) (b5_3 : List UInt8) (b5_4 : List (List UInt8)) (b5_5 : List V) : Option (V) :=
  F20l2 self n n 0 b2_0 b2_1 b2_2 b2_3 b2_4 b2_5 b3_0 b3_1 b3_2 b3_3 b3_4 b3_5 b4_0 b4_1 b4_2 b4_3 b4_4 b4_5 b5_0 b5_1 b5_2 b5_3 b5_4 b5_5

def F20l1F (self : V → V → Option (V)) (n : Nat) (rF20l1 : Int → Int → Bool → Int → List UInt8 → List (List UInt8) → List V → Int → Bool → Int → List UInt8 → List (List UInt8) → List V → Int → Bool → Int → List UInt8 → List (List UInt8) → List V → Int → Bool → Int → List UInt8 → List (List UInt8) → List V → Option (V)) (t6 : Int) (b2_0 : Int) (b2_1 : Bool) (b2_2 : Int) (b2_3 : List UInt8) (b2_4 : List (List UInt8)) (b2_5 : List V) (b3_0 : Int) (b3_1 : Bool) (b3_2 : Int) (b3_3 : List UInt8) (b3_4 : List (List UInt8)) (b3_5 : List V) (b4_0 : Int) (b4_1 : Bool) (b4_2 : Int) (b4_3 : List UInt8) (b4_4 : List (List UInt8)) (b4_5 : List V) (b5_0 : Int) (b5_1 : Bool) (b5_2 : Int) (b5_3 : List UInt8) (b5_4 : List (List UInt8)) (b5_5 : List V) : Option (V) :=
  (bif (decide (t6 < ((b2_4).length : Int))) then
    (bif (b2_0 == 6) then
      (bif inB t6 (b2_4).length then
      (match F18 n (V.mk b3_0 b3_1 b3_2 b3_3 b3_4 b3_5) ((b2_4).getD (Int.toNat t6) (Ty.dflt .str)) with
      | some r1 =>
      (bif (decide (r1 < 0)) then
        (bif inB t6 (b2_4).length then
        (bif (decide (((b5_4).length + (([((b2_4).getD (Int.toNat t6) (Ty.dflt .str))] : List (List UInt8))).length) * 16 ≤ maxRoom) && decide ((b5_4).length + (([((b2_4).getD (Int.toNat t6) (Ty.dflt .str))] : List (List UInt8))).length ≤ maxRoom)) then
        (bif (decide (((b5_5).length + (([(V.mk 1 false 0 ([] : List UInt8) ([] : List (List UInt8)) ([] : List V))] : List V)).length) * 88 ≤ maxRoom) && decide ((b5_5).length + (([(V.mk 1 false 0 ([] : List UInt8) ([] : List (List UInt8)) ([] : List V))] : List V)).length ≤ maxRoom)) then
        rF20l1 (IntKind.wrap .i64 (t6 + 1)) b2_0 b2_1 b2_2 b2_3 b2_4 b2_5 b3_0 b3_1 b3_2 b3_3 b3_4 b3_5 b4_0 b4_1 b4_2 b4_3 b4_4 b4_5 b5_0 b5_1 b5_2 b5_3 (b5_4 ++ ([((b2_4).getD (Int.toNat t6) (Ty.dflt .str))] : List (List UInt8))) (b5_5 ++ ([(V.mk 1 false 0 ([] : List UInt8) ([] : List (List UInt8)) ([] : List V))] : List V))
        else none)
        else none)
        else none)
      else
        rF20l1 (IntKind.wrap .i64 (t6 + 1)) b2_0 b2_1 b2_2 b2_3 b2_4 b2_5 b3_0 b3_1 b3_2 b3_3 b3_4 b3_5 b4_0 b4_1 b4_2 b4_3 b4_4 b4_5 b5_0 b5_1 b5_2 b5_3 b5_4 b5_5)
      | none => none)
      else none)
    else
      F20j0 self n b2_0 b2_1 b2_2 b2_3 b2_4 b2_5 b3_0 b3_1 b3_2 b3_3 b3_4 b3_5 b4_0 b4_1 b4_2 b4_3 b4_4 b4_5 b5_0 b5_1 b5_2 b5_3 b5_4 b5_5)
  else
    F20j0 self n b2_0 b2_1 b2_2 b2_3 b2_4 b2_5 b3_0 b3_1 b3_2 b3_3 b3_4 b3_5 b4_0 b4_1 b4_2 b4_3 b4_4 b4_5 b5_0 b5_1 b5_2 b5_3 b5_4 b5_5)
def F20l1 (self : V → V → Option (V)) (n : Nat) : Nat → Int → Int → Bool → Int → List UInt8 → List (List UInt8) → List V → Int → Bool → Int → List UInt8 → List (List UInt8) → List V → Int → Bool → Int → List UInt8 → List (List UInt8) → List V → Int → Bool → Int → List UInt8 → List (List UInt8) → List V → Option (V)
  | 0, _, _, _, _, _, _, _, _, _, _, _, _, _, _, _, _, _, _, _, _, _, _, _, _, _ => none
  | m + 1, t6, b2_0, b2_1, b2_2, b2_3, b2_4, b2_5, b3_0, b3_1, b3_2, b3_3, b3_4, b3_5, b4_0, b4_1, b4_2, b4_3, b4_4, b4_5, b5_0, b5_1, b5_2, b5_3, b5_4, b5_5 => F20l1F self n (F20l1 self n m) t6 b2_0 b2_1 b2_2 b2_3 b2_4 b2_5 b3_0 b3_1 b3_2 b3_3 b3_4 b3_5 b4_0 b4_1 b4_2 b4_3 b4_4 b4_5 b5_0 b5_1 b5_2 b5_3 b5_4 b5_5

def F20B (self : V → V → Option (V)) (n : Nat) (a0 : V) (a1 : V) : Option (V) :=
  (bif (a1.kind != 6) then
    some (V.mk a1.kind a1.b a1.n a1.s a1.names a1.kids)
  else
    F20l1 self n n 0 a0.kind a0.b a0.n a0.s a0.names a0.kids a1.kind a1.b a1.n a1.s a1.names a1.kids 0 false 0 ([] : List UInt8) ([] : List (List UInt8)) ([] : List V) 6 false 0 ([] : List UInt8) ([] : List (List UInt8)) ([] : List V))

def F20 : Nat → V → V → Option (V)
  | 0, _, _ => none
  | n + 1, a0, a1 => F20B (F20 n) n a0 a1

noncomputable def c20 : Code := Try.f20.body.getD .skip

noncomputable def G20 (self : V → V → Option (V)) (n : Nat) : Ctx (Res [.value]) := ent 18 [.value, .str] [.int .i64] (fun x => F18 n x.1 x.2) (ent 20 [.value, .value] [.value] (fun x => self x.1 x.2) (noFns))

theorem GO20 (self : V → V → Option (V)) (hs : Told Try.prog 20 [.value, .value] [.value] (fun x => self x.1 x.2)) (n : Nat) : CtxOK Try.prog lay0 (G20 self n) := ent_ok (T18 n) (fun _ _ h => h) (ent_ok hs (fun _ _ h => h) (noFns_ok))

noncomputable def P20 (self : V → V → Option (V)) (n : Nat) : Pl (Res [.value]) :=
  (.two .leaf (.two .leaf (.two .leaf (.join [.ptr (.tmp 2) 2 0, .ptr (.tmp 3) 3 0, .ptr (.tmp 4) 4 0, .ptr (.tmp 5) 5 0, .val (.cell 2 0) (.int .i64), .val (.cell 2 1) .bool, .val (.cell 2 2) (.int .i64), .val (.cell 2 3) .str, .val (.cell 2 4) (.slice .str), .val (.cell 2 5) (.slice .value), .val (.cell 3 0) (.int .i64), .val (.cell 3 1) .bool, .val (.cell 3 2) (.int .i64), .val (.cell 3 3) .str, .val (.cell 3 4) (.slice .str), .val (.cell 3 5) (.slice .value), .val (.cell 4 0) (.int .i64), .val (.cell 4 1) .bool, .val (.cell 4 2) (.int .i64), .val (.cell 4 3) .str, .vec (.cell 4 4) 20000000 9 .str, .vec (.cell 4 5) 20000001 30 .value, .val (.cell 5 0) (.int .i64), .val (.cell 5 1) .bool, .val (.cell 5 2) (.int .i64), .val (.cell 5 3) .str, .vec (.cell 5 4) 20000002 9 .str, .vec (.cell 5 5) 20000003 30 .value, .box 2 6, .box 3 6, .box 4 6, .box 5 6] (fun x => F20j0 self n x.2.2.2.2.1 x.2.2.2.2.2.1 x.2.2.2.2.2.2.1 x.2.2.2.2.2.2.2.1 x.2.2.2.2.2.2.2.2.1 x.2.2.2.2.2.2.2.2.2.1 x.2.2.2.2.2.2.2.2.2.2.1 x.2.2.2.2.2.2.2.2.2.2.2.1 x.2.2.2.2.2.2.2.2.2.2.2.2.1 x.2.2.2.2.2.2.2.2.2.2.2.2.2.1 x.2.2.2.2.2.2.2.2.2.2.2.2.2.2.1 x.2.2.2.2.2.2.2.2.2.2.2.2.2.2.2.1 x.2.2.2.2.2.2.2.2.2.2.2.2.2.2.2.2.1 x.2.2.2.2.2.2.2.2.2.2.2.2.2.2.2.2.2.1 x.2.2.2.2.2.2.2.2.2.2.2.2.2.2.2.2.2.2.1 x.2.2.2.2.2.2.2.2.2.2.2.2.2.2.2.2.2.2.2.1 x.2.2.2.2.2.2.2.2.2.2.2.2.2.2.2.2.2.2.2.2.1 x.2.2.2.2.2.2.2.2.2.2.2.2.2.2.2.2.2.2.2.2.2.1 x.2.2.2.2.2.2.2.2.2.2.2.2.2.2.2.2.2.2.2.2.2.2.1 x.2.2.2.2.2.2.2.2.2.2.2.2.2.2.2.2.2.2.2.2.2.2.2.1 x.2.2.2.2.2.2.2.2.2.2.2.2.2.2.2.2.2.2.2.2.2.2.2.2.1 x.2.2.2.2.2.2.2.2.2.2.2.2.2.2.2.2.2.2.2.2.2.2.2.2.2.1 x.2.2.2.2.2.2.2.2.2.2.2.2.2.2.2.2.2.2.2.2.2.2.2.2.2.2.1 x.2.2.2.2.2.2.2.2.2.2.2.2.2.2.2.2.2.2.2.2.2.2.2.2.2.2.2.1) (.two .leaf (.one (.loop [.ptr (.tmp 2) 2 0, .ptr (.tmp 3) 3 0, .ptr (.tmp 4) 4 0, .ptr (.tmp 5) 5 0, .val (.tmp 6) (.int .i64), .val (.cell 2 0) (.int .i64), .val (.cell 2 1) .bool, .val (.cell 2 2) (.int .i64), .val (.cell 2 3) .str, .val (.cell 2 4) (.slice .str), .val (.cell 2 5) (.slice .value), .val (.cell 3 0) (.int .i64), .val (.cell 3 1) .bool, .val (.cell 3 2) (.int .i64), .val (.cell 3 3) .str, .val (.cell 3 4) (.slice .str), .val (.cell 3 5) (.slice .value), .val (.cell 4 0) (.int .i64), .val (.cell 4 1) .bool, .val (.cell 4 2) (.int .i64), .val (.cell 4 3) .str, .vec (.cell 4 4) 20000000 9 .str, .vec (.cell 4 5) 20000001 30 .value, .val (.cell 5 0) (.int .i64), .val (.cell 5 1) .bool, .val (.cell 5 2) (.int .i64), .val (.cell 5 3) .str, .vec (.cell 5 4) 20000002 9 .str, .vec (.cell 5 5) 20000003 30 .value, .box 2 6, .box 3 6, .box 4 6, .box 5 6] n (fun m x => F20l1 self n m x.2.2.2.2.1 x.2.2.2.2.2.1 x.2.2.2.2.2.2.1 x.2.2.2.2.2.2.2.1 x.2.2.2.2.2.2.2.2.1 x.2.2.2.2.2.2.2.2.2.1 x.2.2.2.2.2.2.2.2.2.2.1 x.2.2.2.2.2.2.2.2.2.2.2.1 x.2.2.2.2.2.2.2.2.2.2.2.2.1 x.2.2.2.2.2.2.2.2.2.2.2.2.2.1 x.2.2.2.2.2.2.2.2.2.2.2.2.2.2.1 x.2.2.2.2.2.2.2.2.2.2.2.2.2.2.2.1 x.2.2.2.2.2.2.2.2.2.2.2.2.2.2.2.2.1 x.2.2.2.2.2.2.2.2.2.2.2.2.2.2.2.2.2.1 x.2.2.2.2.2.2.2.2.2.2.2.2.2.2.2.2.2.2.1 x.2.2.2.2.2.2.2.2.2.2.2.2.2.2.2.2.2.2.2.1 x.2.2.2.2.2.2.2.2.2.2.2.2.2.2.2.2.2.2.2.2.1 x.2.2.2.2.2.2.2.2.2.2.2.2.2.2.2.2.2.2.2.2.2.1 x.2.2.2.2.2.2.2.2.2.2.2.2.2.2.2.2.2.2.2.2.2.2.1 x.2.2.2.2.2.2.2.2.2.2.2.2.2.2.2.2.2.2.2.2.2.2.2.1 x.2.2.2.2.2.2.2.2.2.2.2.2.2.2.2.2.2.2.2.2.2.2.2.2.1 x.2.2.2.2.2.2.2.2.2.2.2.2.2.2.2.2.2.2.2.2.2.2.2.2.2.1 x.2.2.2.2.2.2.2.2.2.2.2.2.2.2.2.2.2.2.2.2.2.2.2.2.2.2.1 x.2.2.2.2.2.2.2.2.2.2.2.2.2.2.2.2.2.2.2.2.2.2.2.2.2.2.2.1 x.2.2.2.2.2.2.2.2.2.2.2.2.2.2.2.2.2.2.2.2.2.2.2.2.2.2.2.2.1) (fun _ => .leaf)))) (.two (.two .leaf (.one (.loop [.ptr (.tmp 2) 2 0, .ptr (.tmp 3) 3 0, .ptr (.tmp 4) 4 0, .ptr (.tmp 5) 5 0, .val (.tmp 7) (.int .i64), .val (.cell 2 0) (.int .i64), .val (.cell 2 1) .bool, .val (.cell 2 2) (.int .i64), .val (.cell 2 3) .str, .val (.cell 2 4) (.slice .str), .val (.cell 2 5) (.slice .value), .val (.cell 3 0) (.int .i64), .val (.cell 3 1) .bool, .val (.cell 3 2) (.int .i64), .val (.cell 3 3) .str, .val (.cell 3 4) (.slice .str), .val (.cell 3 5) (.slice .value), .val (.cell 4 0) (.int .i64), .val (.cell 4 1) .bool, .val (.cell 4 2) (.int .i64), .val (.cell 4 3) .str, .vec (.cell 4 4) 20000000 9 .str, .vec (.cell 4 5) 20000001 30 .value, .val (.cell 5 0) (.int .i64), .val (.cell 5 1) .bool, .val (.cell 5 2) (.int .i64), .val (.cell 5 3) .str, .vec (.cell 5 4) 20000002 9 .str, .vec (.cell 5 5) 20000003 30 .value, .box 2 6, .box 3 6, .box 4 6, .box 5 6] n (fun m x => F20l2 self n m x.2.2.2.2.1 x.2.2.2.2.2.1 x.2.2.2.2.2.2.1 x.2.2.2.2.2.2.2.1 x.2.2.2.2.2.2.2.2.1 x.2.2.2.2.2.2.2.2.2.1 x.2.2.2.2.2.2.2.2.2.2.1 x.2.2.2.2.2.2.2.2.2.2.2.1 x.2.2.2.2.2.2.2.2.2.2.2.2.1 x.2.2.2.2.2.2.2.2.2.2.2.2.2.1 x.2.2.2.2.2.2.2.2.2.2.2.2.2.2.1 x.2.2.2.2.2.2.2.2.2.2.2.2.2.2.2.1 x.2.2.2.2.2.2.2.2.2.2.2.2.2.2.2.2.1 x.2.2.2.2.2.2.2.2.2.2.2.2.2.2.2.2.2.1 x.2.2.2.2.2.2.2.2.2.2.2.2.2.2.2.2.2.2.1 x.2.2.2.2.2.2.2.2.2.2.2.2.2.2.2.2.2.2.2.1 x.2.2.2.2.2.2.2.2.2.2.2.2.2.2.2.2.2.2.2.2.1 x.2.2.2.2.2.2.2.2.2.2.2.2.2.2.2.2.2.2.2.2.2.1 x.2.2.2.2.2.2.2.2.2.2.2.2.2.2.2.2.2.2.2.2.2.2.1 x.2.2.2.2.2.2.2.2.2.2.2.2.2.2.2.2.2.2.2.2.2.2.2.1 x.2.2.2.2.2.2.2.2.2.2.2.2.2.2.2.2.2.2.2.2.2.2.2.2.1 x.2.2.2.2.2.2.2.2.2.2.2.2.2.2.2.2.2.2.2.2.2.2.2.2.2.1 x.2.2.2.2.2.2.2.2.2.2.2.2.2.2.2.2.2.2.2.2.2.2.2.2.2.2.1 x.2.2.2.2.2.2.2.2.2.2.2.2.2.2.2.2.2.2.2.2.2.2.2.2.2.2.2.1 x.2.2.2.2.2.2.2.2.2.2.2.2.2.2.2.2.2.2.2.2.2.2.2.2.2.2.2.2.1) (fun r => let rF20l2 : Int → Int → Bool → Int → List UInt8 → List (List UInt8) → List V → Int → Bool → Int → List UInt8 → List (List UInt8) → List V → Int → Bool → Int → List UInt8 → List (List UInt8) → List V → Int → Bool → Int → List UInt8 → List (List UInt8) → List V → Option (V) := (fun y0 y1 y2 y3 y4 y5 y6 y7 y8 y9 y10 y11 y12 y13 y14 y15 y16 y17 y18 y19 y20 y21 y22 y23 y24 => r ((), (), (), (), y0, y1, y2, y3, y4, y5, y6, y7, y8, y9, y10, y11, y12, y13, y14, y15, y16, y17, y18, y19, y20, y21, y22, y23, y24, (), (), (), (), ())); (.two .leaf (.two (.one (.two .leaf (.join [.ptr (.tmp 2) 2 0, .ptr (.tmp 3) 3 0, .ptr (.tmp 4) 4 0, .ptr (.tmp 5) 5 0, .val (.tmp 7) (.int .i64), .ptr (.tmp 8) 8 0, .val (.cell 2 0) (.int .i64), .val (.cell 2 1) .bool, .val (.cell 2 2) (.int .i64), .val (.cell 2 3) .str, .val (.cell 2 4) (.slice .str), .val (.cell 2 5) (.slice .value), .val (.cell 3 0) (.int .i64), .val (.cell 3 1) .bool, .val (.cell 3 2) (.int .i64), .val (.cell 3 3) .str, .val (.cell 3 4) (.slice .str), .val (.cell 3 5) (.slice .value), .val (.cell 4 0) (.int .i64), .val (.cell 4 1) .bool, .val (.cell 4 2) (.int .i64), .val (.cell 4 3) .str, .vec (.cell 4 4) 20000000 9 .str, .vec (.cell 4 5) 20000001 30 .value, .val (.cell 5 0) (.int .i64), .val (.cell 5 1) .bool, .val (.cell 5 2) (.int .i64), .val (.cell 5 3) .str, .vec (.cell 5 4) 20000002 9 .str, .vec (.cell 5 5) 20000003 30 .value, .val (.cell 8 0) (.int .i64), .val (.cell 8 1) .bool, .val (.cell 8 2) (.int .i64), .val (.cell 8 3) .str, .val (.cell 8 4) (.slice .str), .val (.cell 8 5) (.slice .value), .box 2 6, .box 3 6, .box 4 6, .box 5 6, .box 8 6] (fun x => F20j3 self n rF20l2 x.2.2.2.2.1 x.2.2.2.2.2.2.1 x.2.2.2.2.2.2.2.1 x.2.2.2.2.2.2.2.2.1 x.2.2.2.2.2.2.2.2.2.1 x.2.2.2.2.2.2.2.2.2.2.1 x.2.2.2.2.2.2.2.2.2.2.2.1 x.2.2.2.2.2.2.2.2.2.2.2.2.1 x.2.2.2.2.2.2.2.2.2.2.2.2.2.1 x.2.2.2.2.2.2.2.2.2.2.2.2.2.2.1 x.2.2.2.2.2.2.2.2.2.2.2.2.2.2.2.1 x.2.2.2.2.2.2.2.2.2.2.2.2.2.2.2.2.1 x.2.2.2.2.2.2.2.2.2.2.2.2.2.2.2.2.2.1 x.2.2.2.2.2.2.2.2.2.2.2.2.2.2.2.2.2.2.1 x.2.2.2.2.2.2.2.2.2.2.2.2.2.2.2.2.2.2.2.1 x.2.2.2.2.2.2.2.2.2.2.2.2.2.2.2.2.2.2.2.2.1 x.2.2.2.2.2.2.2.2.2.2.2.2.2.2.2.2.2.2.2.2.2.1 x.2.2.2.2.2.2.2.2.2.2.2.2.2.2.2.2.2.2.2.2.2.2.1 x.2.2.2.2.2.2.2.2.2.2.2.2.2.2.2.2.2.2.2.2.2.2.2.1 x.2.2.2.2.2.2.2.2.2.2.2.2.2.2.2.2.2.2.2.2.2.2.2.2.1 x.2.2.2.2.2.2.2.2.2.2.2.2.2.2.2.2.2.2.2.2.2.2.2.2.2.1 x.2.2.2.2.2.2.2.2.2.2.2.2.2.2.2.2.2.2.2.2.2.2.2.2.2.2.1 x.2.2.2.2.2.2.2.2.2.2.2.2.2.2.2.2.2.2.2.2.2.2.2.2.2.2.2.1 x.2.2.2.2.2.2.2.2.2.2.2.2.2.2.2.2.2.2.2.2.2.2.2.2.2.2.2.2.1 x.2.2.2.2.2.2.2.2.2.2.2.2.2.2.2.2.2.2.2.2.2.2.2.2.2.2.2.2.2.1 x.2.2.2.2.2.2.2.2.2.2.2.2.2.2.2.2.2.2.2.2.2.2.2.2.2.2.2.2.2.2.1 x.2.2.2.2.2.2.2.2.2.2.2.2.2.2.2.2.2.2.2.2.2.2.2.2.2.2.2.2.2.2.2.1 x.2.2.2.2.2.2.2.2.2.2.2.2.2.2.2.2.2.2.2.2.2.2.2.2.2.2.2.2.2.2.2.2.1 x.2.2.2.2.2.2.2.2.2.2.2.2.2.2.2.2.2.2.2.2.2.2.2.2.2.2.2.2.2.2.2.2.2.1 x.2.2.2.2.2.2.2.2.2.2.2.2.2.2.2.2.2.2.2.2.2.2.2.2.2.2.2.2.2.2.2.2.2.2.1 x.2.2.2.2.2.2.2.2.2.2.2.2.2.2.2.2.2.2.2.2.2.2.2.2.2.2.2.2.2.2.2.2.2.2.2.1) .leaf .leaf))) .leaf)))))) .leaf)))))

theorem K20 (self : V → V → Option (V)) (n : Nat) : PlOK (G20 self n) noInl lay0 96 (P20 self n) c20 (fnK lay0 [.cell 4 30] [.val .value, .val .value] [.val .value] [.value]) :=
  ⟨trivial, ⟨trivial, ⟨trivial, ⟨by kernel_rfl, fun x => by kernel_rfl, ⟨trivial, ⟨by kernel_rfl, fun x => by kernel_rfl, fun m => ⟨fun x => by kernel_rfl, trivial⟩⟩⟩, ⟨⟨trivial, ⟨by kernel_rfl, fun x => by kernel_rfl, fun m => ⟨fun x => by kernel_rfl, ⟨trivial, ⟨⟨trivial, ⟨by kernel_rfl, fun x => by kernel_rfl, trivial, trivial⟩⟩, trivial⟩⟩⟩⟩⟩, trivial⟩⟩⟩⟩⟩

theorem E20 (self : V → V → Option (V)) (n : Nat) (a0 : V) (a1 : V) : F20B self n a0 a1 = fnE [.val .value, .val .value] (argDs [.value, .value] (a0, a1)) (fun st => ev (G20 self n) noInl lay0 96 c20 (P20 self n) st (fnK lay0 [.cell 4 30] [.val .value, .val .value] [.val .value] [.value])) := by kernel_rfl

theorem TB20 (self : V → V → Option (V)) (hs : Told Try.prog 20 [.value, .value] [.value] (fun x => self x.1 x.2)) (n : Nat) : Told Try.prog 20 [.value, .value] [.value] (fun x => F20B self n x.1 x.2) := by
  rintro ⟨a0, a1⟩ r h
  exact calls_plain (fn_sound lay0_ok mixed (rvs := [.cell 4 30]) (by kernel_rfl : Try.prog.funcs[20]? = some Try.f20) (by kernel_rfl : Try.f20.body = some c20) (by kernel_rfl) (by kernel_rfl) (by kernel_rfl) (GO20 self hs n) noInl_ok (K20 self n) ((E20 self n a0 a1).symm.trans h)) rfl rfl rfl rfl

theorem T20 : ∀ n : Nat, Told Try.prog 20 [.value, .value] [.value] (fun x => F20 n x.1 x.2)
  | 0 => fun _ _ h => by cases h
  | n + 1 => TB20 (F20 n) (T20 n) n

/-! ### orthoepy/value.Equal -/

def F21j2 (self : V → V → Option (Bool)) (n : Nat) (rF21l1 : List (List UInt8 × Int) → List V → Int → Int → Int → Bool → Int → List UInt8 → List (List UInt8) → List V → Int → Bool → Int → List UInt8 → List (List UInt8) → List V → Option (Bool)) (t5 : List (List UInt8 × Int)) (t10 : Int) (t71 : List V) (t72 : Int) (t73 : Int) (b2_0 : Int) (b2_1 : Bool) (b2_2 : Int) (b2_3 : List UInt8) (b2_4 : List (List UInt8)) (b2_5 : List V) (b3_0 : Int) (b3_1 : Bool) (b3_2 : Int) (b3_3 : List UInt8) (b3_4 : List (List UInt8)) (b3_5 : List V) (b9_0 : Int) (b9_1 : Bool) (b9_2 : Int) (b9_3 : List UInt8) (b9_4 : List (List UInt8)) (b9_5 : List V) : Option (Bool) :=
  (bif (decide (t10 ≥ ((b3_5).length : Int))) then
    some false
  else
    (bif inB t10 (b3_5).length then
    (match self (V.mk b9_0 b9_1 b9_2 b9_3 b9_4 b9_5) ((b3_5).getD (Int.toNat t10) (Ty.dflt .value)) with
    | some r1 =>
    (bif (!r1) then
      some false
    else
      rF21l1 t5 t71 t72 (IntKind.wrap .i64 (t73 + 1)) b2_0 b2_1 b2_2 b2_3 b2_4 b2_5 b3_0 b3_1 b3_2 b3_3 b3_4 b3_5)
    | none => none)
    else none))

def F21l1F (self : V → V → Option (Bool)) (n : Nat) (rF21l1 : List (List UInt8 × Int) → List V → Int → Int → Int → Bool → Int → List UInt8 → List (List UInt8) → List V → Int → Bool → Int → List UInt8 → List (List UInt8) → List V → Option (Bool)) (t5 : List (List UInt8 × Int)) (t71 : List V) (t72 : Int) (t73 : Int) (b2_0 : Int) (b2_1 : Bool) (b2_2 : Int) (b2_3 : List UInt8) (b2_4 : List (List UInt8)) (b2_5 : List V) (b3_0 : Int) (b3_1 : Bool) (b3_2 : Int) (b3_3 : List UInt8) (b3_4 : List (List UInt8)) (b3_5 : List V) : Option (Bool) :=
  (bif (decide (t73 < t72)) then
    (bif inB t73 (t71).length then
    (bif (decide (t73 < ((b2_4).length : Int))) then
      (bif inB t73 (b2_4).length then
      (bif (!(Option.isSome (mapGet (Ty.beq .str) t5 ((b2_4).getD (Int.toNat t73) (Ty.dflt .str))))) then
        some false
      else
        F21j2 self n rF21l1 t5 (Option.getD (mapGet (Ty.beq .str) t5 ((b2_4).getD (Int.toNat t73) (Ty.dflt .str))) 0) t71 t72 t73 b2_0 b2_1 b2_2 b2_3 b2_4 b2_5 b3_0 b3_1 b3_2 b3_3 b3_4 b3_5 ((t71).getD (Int.toNat t73) (Ty.dflt .value)).kind ((t71).getD (Int.toNat t73) (Ty.dflt .value)).b ((t71).getD (Int.toNat t73) (Ty.dflt .value)).n ((t71).getD (Int.toNat t73) (Ty.dflt .value)).s ((t71).getD (Int.toNat t73) (Ty.dflt .value)).names ((t71).getD (Int.toNat t73) (Ty.dflt .value)).kids)
      else none)
    else
      F21j2 self n rF21l1 t5 t73 t71 t72 t73 b2_0 b2_1 b2_2 b2_3 b2_4 b2_5 b3_0 b3_1 b3_2 b3_3 b3_4 b3_5 ((t71).getD (Int.toNat t73) (Ty.dflt .value)).kind ((t71).getD (Int.toNat t73) (Ty.dflt .value)).b ((t71).getD (Int.toNat t73) (Ty.dflt .value)).n ((t71).getD (Int.toNat t73) (Ty.dflt .value)).s ((t71).getD (Int.toNat t73) (Ty.dflt .value)).names ((t71).getD (Int.toNat t73) (Ty.dflt .value)).kids)
    else none)
  else
    some true)
def F21l1 (self : V → V → Option (Bool)) (n : Nat) : Nat → List (List UInt8 × Int) → List V → Int → Int → Int → Bool → Int → List UInt8 → List (List UInt8) → List V → Int → Bool → Int → List UInt8 → List (List UInt8) → List V → Option (Bool)
  | 0, _, _, _, _, _, _, _, _, _, _, _, _, _, _, _, _ => none
  | m + 1, t5, t71, t72, t73, b2_0, b2_1, b2_2, b2_3, b2_4, b2_5, b3_0, b3_1, b3_2, b3_3, b3_4, b3_5 => F21l1F self n (F21l1 self n m) t5 t71 t72 t73 b2_0 b2_1 b2_2 b2_3 b2_4 b2_5 b3_0 b3_1 b3_2 b3_3 b3_4 b3_5

def F21l0F (self : V → V → Option (Bool)) (n : Nat) (rF21l0 : List (List UInt8 × Int) → List (List UInt8) → Int → Int → Int → Bool → Int → List UInt8 → List (List UInt8) → List V → Int → Bool → Int → List UInt8 → List (List UInt8) → List V → Option (Bool)) (t5 : List (List UInt8 × Int)) (t59 : List (List UInt8)) (t60 : Int) (t61 : Int) (b2_0 : Int) (b2_1 : Bool) (b2_2 : Int) (b2_3 : List UInt8) (b2_4 : List (List UInt8)) (b2_5 : List V) (b3_0 : Int) (b3_1 : Bool) (b3_2 : Int) (b3_3 : List UInt8) (b3_4 : List (List UInt8)) (b3_5 : List V) : Option (Bool) :=
  (bif (decide (t61 < t60)) then
    (bif inB t61 (t59).length then
    rF21l0 (mapPut (Ty.beq .str) t5 ((t59).getD (Int.toNat t61) (Ty.dflt .str)) t61) t59 t60 (IntKind.wrap .i64 (t61 + 1)) b2_0 b2_1 b2_2 b2_3 b2_4 b2_5 b3_0 b3_1 b3_2 b3_3 b3_4 b3_5
    else none)
  else
    F21l1 self n n t5 b2_5 ((b2_5).length : Int) 0 b2_0 b2_1 b2_2 b2_3 b2_4 b2_5 b3_0 b3_1 b3_2 b3_3 b3_4 b3_5)
def F21l0 (self : V → V → Option (Bool)) (n : Nat) : Nat → List (List UInt8 × Int) → List (List UInt8) → Int → Int → Int → Bool → Int → List UInt8 → List (List UInt8) → List V → Int → Bool → Int → List UInt8 → List (List UInt8) → List V → Option (Bool)
  | 0, _, _, _, _, _, _, _, _, _, _, _, _, _, _, _, _ => none
  | m + 1, t5, t59, t60, t61, b2_0, b2_1, b2_2, b2_3, b2_4, b2_5, b3_0, b3_1, b3_2, b3_3, b3_4, b3_5 => F21l0F self n (F21l0 self n m) t5 t59 t60 t61 b2_0 b2_1 b2_2 b2_3 b2_4 b2_5 b3_0 b3_1 b3_2 b3_3 b3_4 b3_5

def F21B (self : V → V → Option (Bool)) (n : Nat) (a0 : V) (a1 : V) : Option (Bool) :=
  (bif (a0.kind != a1.kind) then
    some false
  else
    (bif (!(a0.b == a1.b)) then
      some false
    else
      (bif (a0.n != a1.n) then
        some false
      else
        (bif (!(a0.s == a1.s)) then
          some false
        else
          (bif (((a0.kids).length : Int) != ((a1.kids).length : Int)) then
            some false
          else
            (bif (((a0.names).length : Int) != ((a1.names).length : Int)) then
              some false
            else
              F21l0 self n n ([] : List (List UInt8 × Int)) a1.names ((a1.names).length : Int) 0 a0.kind a0.b a0.n a0.s a0.names a0.kids a1.kind a1.b a1.n a1.s a1.names a1.kids))))))

def F21 : Nat → V → V → Option (Bool)
  | 0, _, _ => none
  | n + 1, a0, a1 => F21B (F21 n) n a0 a1

noncomputable def c21 : Code := Try.f21.body.getD .skip

noncomputable def G21 (self : V → V → Option (Bool)) (n : Nat) : Ctx (Res [.bool]) := ent 21 [.value, .value] [.bool] (fun x => self x.1 x.2) (noFns)

theorem GO21 (self : V → V → Option (Bool)) (hs : Told Try.prog 21 [.value, .value] [.bool] (fun x => self x.1 x.2)) (n : Nat) : CtxOK Try.prog lay0 (G21 self n) := ent_ok hs (fun _ _ h => h) (noFns_ok)

noncomputable def P21 (self : V → V → Option (Bool)) (n : Nat) : Pl (Res [.bool]) :=
  (.two .leaf (.two .leaf (.two .leaf (.two (.two .leaf (.one (.loop [.ptr (.tmp 2) 2 0, .ptr (.tmp 3) 3 0, .map (.tmp 5) 20000000 .str (.int .i64), .val (.tmp 59) (.slice .str), .val (.tmp 60) (.int .i64), .val (.tmp 61) (.int .i64), .val (.cell 2 0) (.int .i64), .val (.cell 2 1) .bool, .val (.cell 2 2) (.int .i64), .val (.cell 2 3) .str, .val (.cell 2 4) (.slice .str), .val (.cell 2 5) (.slice .value), .val (.cell 3 0) (.int .i64), .val (.cell 3 1) .bool, .val (.cell 3 2) (.int .i64), .val (.cell 3 3) .str, .val (.cell 3 4) (.slice .str), .val (.cell 3 5) (.slice .value), .box 2 6, .box 3 6] n (fun m x => F21l0 self n m x.2.2.1 x.2.2.2.1 x.2.2.2.2.1 x.2.2.2.2.2.1 x.2.2.2.2.2.2.1 x.2.2.2.2.2.2.2.1 x.2.2.2.2.2.2.2.2.1 x.2.2.2.2.2.2.2.2.2.1 x.2.2.2.2.2.2.2.2.2.2.1 x.2.2.2.2.2.2.2.2.2.2.2.1 x.2.2.2.2.2.2.2.2.2.2.2.2.1 x.2.2.2.2.2.2.2.2.2.2.2.2.2.1 x.2.2.2.2.2.2.2.2.2.2.2.2.2.2.1 x.2.2.2.2.2.2.2.2.2.2.2.2.2.2.2.1 x.2.2.2.2.2.2.2.2.2.2.2.2.2.2.2.2.1 x.2.2.2.2.2.2.2.2.2.2.2.2.2.2.2.2.2.1) (fun _ => .leaf)))) (.two (.two .leaf (.one (.loop [.ptr (.tmp 2) 2 0, .ptr (.tmp 3) 3 0, .map (.tmp 5) 20000000 .str (.int .i64), .val (.tmp 71) (.slice .value), .val (.tmp 72) (.int .i64), .val (.tmp 73) (.int .i64), .val (.cell 2 0) (.int .i64), .val (.cell 2 1) .bool, .val (.cell 2 2) (.int .i64), .val (.cell 2 3) .str, .val (.cell 2 4) (.slice .str), .val (.cell 2 5) (.slice .value), .val (.cell 3 0) (.int .i64), .val (.cell 3 1) .bool, .val (.cell 3 2) (.int .i64), .val (.cell 3 3) .str, .val (.cell 3 4) (.slice .str), .val (.cell 3 5) (.slice .value), .box 2 6, .box 3 6] n (fun m x => F21l1 self n m x.2.2.1 x.2.2.2.1 x.2.2.2.2.1 x.2.2.2.2.2.1 x.2.2.2.2.2.2.1 x.2.2.2.2.2.2.2.1 x.2.2.2.2.2.2.2.2.1 x.2.2.2.2.2.2.2.2.2.1 x.2.2.2.2.2.2.2.2.2.2.1 x.2.2.2.2.2.2.2.2.2.2.2.1 x.2.2.2.2.2.2.2.2.2.2.2.2.1 x.2.2.2.2.2.2.2.2.2.2.2.2.2.1 x.2.2.2.2.2.2.2.2.2.2.2.2.2.2.1 x.2.2.2.2.2.2.2.2.2.2.2.2.2.2.2.1 x.2.2.2.2.2.2.2.2.2.2.2.2.2.2.2.2.1 x.2.2.2.2.2.2.2.2.2.2.2.2.2.2.2.2.2.1) (fun r => let rF21l1 : List (List UInt8 × Int) → List V → Int → Int → Int → Bool → Int → List UInt8 → List (List UInt8) → List V → Int → Bool → Int → List UInt8 → List (List UInt8) → List V → Option (Bool) := (fun y0 y1 y2 y3 y4 y5 y6 y7 y8 y9 y10 y11 y12 y13 y14 y15 => r ((), (), y0, y1, y2, y3, y4, y5, y6, y7, y8, y9, y10, y11, y12, y13, y14, y15, (), (), ())); (.two .leaf (.two .leaf (.two (.one (.two .leaf (.two .leaf (.join [.ptr (.tmp 2) 2 0, .ptr (.tmp 3) 3 0, .map (.tmp 5) 20000000 .str (.int .i64), .ptr (.tmp 9) 9 0, .val (.tmp 10) (.int .i64), .val (.tmp 71) (.slice .value), .val (.tmp 72) (.int .i64), .val (.tmp 73) (.int .i64), .val (.cell 2 0) (.int .i64), .val (.cell 2 1) .bool, .val (.cell 2 2) (.int .i64), .val (.cell 2 3) .str, .val (.cell 2 4) (.slice .str), .val (.cell 2 5) (.slice .value), .val (.cell 3 0) (.int .i64), .val (.cell 3 1) .bool, .val (.cell 3 2) (.int .i64), .val (.cell 3 3) .str, .val (.cell 3 4) (.slice .str), .val (.cell 3 5) (.slice .value), .val (.cell 9 0) (.int .i64), .val (.cell 9 1) .bool, .val (.cell 9 2) (.int .i64), .val (.cell 9 3) .str, .val (.cell 9 4) (.slice .str), .val (.cell 9 5) (.slice .value), .box 2 6, .box 3 6, .box 9 6] (fun x => F21j2 self n rF21l1 x.2.2.1 x.2.2.2.2.1 x.2.2.2.2.2.1 x.2.2.2.2.2.2.1 x.2.2.2.2.2.2.2.1 x.2.2.2.2.2.2.2.2.1 x.2.2.2.2.2.2.2.2.2.1 x.2.2.2.2.2.2.2.2.2.2.1 x.2.2.2.2.2.2.2.2.2.2.2.1 x.2.2.2.2.2.2.2.2.2.2.2.2.1 x.2.2.2.2.2.2.2.2.2.2.2.2.2.1 x.2.2.2.2.2.2.2.2.2.2.2.2.2.2.1 x.2.2.2.2.2.2.2.2.2.2.2.2.2.2.2.1 x.2.2.2.2.2.2.2.2.2.2.2.2.2.2.2.2.1 x.2.2.2.2.2.2.2.2.2.2.2.2.2.2.2.2.2.1 x.2.2.2.2.2.2.2.2.2.2.2.2.2.2.2.2.2.2.1 x.2.2.2.2.2.2.2.2.2.2.2.2.2.2.2.2.2.2.2.1 x.2.2.2.2.2.2.2.2.2.2.2.2.2.2.2.2.2.2.2.2.1 x.2.2.2.2.2.2.2.2.2.2.2.2.2.2.2.2.2.2.2.2.2.1 x.2.2.2.2.2.2.2.2.2.2.2.2.2.2.2.2.2.2.2.2.2.2.1 x.2.2.2.2.2.2.2.2.2.2.2.2.2.2.2.2.2.2.2.2.2.2.2.1 x.2.2.2.2.2.2.2.2.2.2.2.2.2.2.2.2.2.2.2.2.2.2.2.2.1 x.2.2.2.2.2.2.2.2.2.2.2.2.2.2.2.2.2.2.2.2.2.2.2.2.2.1) .leaf .leaf)))) .leaf))))))) .leaf)))))

theorem K21 (self : V → V → Option (Bool)) (n : Nat) : PlOK (G21 self n) noInl lay0 113 (P21 self n) c21 (fnK lay0 [.tmp 4] [.val .value, .val .value] [.val .bool] [.bool]) :=
  ⟨trivial, ⟨trivial, ⟨trivial, ⟨⟨trivial, ⟨by kernel_rfl, fun x => by kernel_rfl, fun m => ⟨fun x => by kernel_rfl, trivial⟩⟩⟩, ⟨⟨trivial, ⟨by kernel_rfl, fun x => by kernel_rfl, fun m => ⟨fun x => by kernel_rfl, ⟨trivial, ⟨trivial, ⟨⟨trivial, ⟨trivial, ⟨by kernel_rfl, fun x => by kernel_rfl, trivial, trivial⟩⟩⟩, trivial⟩⟩⟩⟩⟩⟩, trivial⟩⟩⟩⟩⟩

theorem E21 (self : V → V → Option (Bool)) (n : Nat) (a0 : V) (a1 : V) : F21B self n a0 a1 = fnE [.val .value, .val .value] (argDs [.value, .value] (a0, a1)) (fun st => ev (G21 self n) noInl lay0 113 c21 (P21 self n) st (fnK lay0 [.tmp 4] [.val .value, .val .value] [.val .bool] [.bool])) := by kernel_rfl

theorem TB21 (self : V → V → Option (Bool)) (hs : Told Try.prog 21 [.value, .value] [.bool] (fun x => self x.1 x.2)) (n : Nat) : Told Try.prog 21 [.value, .value] [.bool] (fun x => F21B self n x.1 x.2) := by
  rintro ⟨a0, a1⟩ r h
  exact calls_plain (fn_sound lay0_ok mixed (rvs := [.tmp 4]) (by kernel_rfl : Try.prog.funcs[21]? = some Try.f21) (by kernel_rfl : Try.f21.body = some c21) (by kernel_rfl) (by kernel_rfl) (by kernel_rfl) (GO21 self hs n) noInl_ok (K21 self n) ((E21 self n a0 a1).symm.trans h)) rfl rfl rfl rfl

theorem T21 : ∀ n : Nat, Told Try.prog 21 [.value, .value] [.bool] (fun x => F21 n x.1 x.2)
  | 0 => fun _ _ h => by cases h
  | n + 1 => TB21 (F21 n) (T21 n) n

/-! ### orthoepy/orthoepylaw26.awake -/

def F10 (n : Nat) : Option (Bool) :=
  (match F15 n (V.mk 6 false 0 ([] : List UInt8) ([([97] : List UInt8)] : List (List UInt8)) ([(V.mk 6 false 0 ([] : List UInt8) ([([98] : List UInt8)] : List (List UInt8)) ([(V.mk 3 false 1 ([] : List UInt8) ([] : List (List UInt8)) ([] : List V))] : List V))] : List V)) (V.mk 6 false 0 ([] : List UInt8) ([([97] : List UInt8)] : List (List UInt8)) ([(V.mk 6 false 0 ([] : List UInt8) ([([98] : List UInt8), ([99] : List UInt8)] : List (List UInt8)) ([(V.mk 1 false 0 ([] : List UInt8) ([] : List (List UInt8)) ([] : List V)), (V.mk 3 false 2 ([] : List UInt8) ([] : List (List UInt8)) ([] : List V))] : List V))] : List V)) with
  | some r1 =>
  (bif (((r1.kids).length : Int) != 1) then
    some false
  else
    (bif inB 0 (r1.kids).length then
    (bif (((((r1.kids).getD (Int.toNat 0) (Ty.dflt .value)).kids).length : Int) != 1) then
      some false
    else
      (bif inB 0 (r1.kids).length then
      (bif (((((r1.kids).getD (Int.toNat 0) (Ty.dflt .value)).names).length : Int) != 1) then
        some false
      else
        (bif inB 0 (r1.kids).length then
        (bif inB 0 (((r1.kids).getD (Int.toNat 0) (Ty.dflt .value)).names).length then
        (bif (((((r1.kids).getD (Int.toNat 0) (Ty.dflt .value)).names).getD (Int.toNat 0) (Ty.dflt .str)) == ([99] : List UInt8)) then
          (bif inB 0 (r1.kids).length then
          (bif inB 0 (((r1.kids).getD (Int.toNat 0) (Ty.dflt .value)).kids).length then
          (bif (((((r1.kids).getD (Int.toNat 0) (Ty.dflt .value)).kids).getD (Int.toNat 0) (Ty.dflt .value)).n == 2) then
            (match F15 n (V.mk 6 false 0 ([] : List UInt8) ([([97] : List UInt8)] : List (List UInt8)) ([(V.mk 6 false 0 ([] : List UInt8) ([([98] : List UInt8)] : List (List UInt8)) ([(V.mk 3 false 1 ([] : List UInt8) ([] : List (List UInt8)) ([] : List V))] : List V))] : List V)) (V.mk 3 false 1 ([] : List UInt8) ([] : List (List UInt8)) ([] : List V)) with
            | some r2 =>
            (bif (r2.n == 1) then
              (match F15 n (V.mk 3 false 1 ([] : List UInt8) ([] : List (List UInt8)) ([] : List V)) (V.mk 6 false 0 ([] : List UInt8) ([([97] : List UInt8)] : List (List UInt8)) ([(V.mk 6 false 0 ([] : List UInt8) ([([98] : List UInt8), ([99] : List UInt8)] : List (List UInt8)) ([(V.mk 1 false 0 ([] : List UInt8) ([] : List (List UInt8)) ([] : List V)), (V.mk 3 false 2 ([] : List UInt8) ([] : List (List UInt8)) ([] : List V))] : List V))] : List V)) with
              | some r3 =>
              some (r3.kind == 6)
              | none => none)
            else
              some false)
            | none => none)
          else
            some false)
          else none)
          else none)
        else
          some false)
        else none)
        else none))
      else none))
    else none))
  | none => none)

noncomputable def c10 : Code := Try.f10.body.getD .skip

noncomputable def G10 (n : Nat) : Ctx (Res [.bool]) := ent 15 [.value, .value] [.value] (fun x => F15 n x.1 x.2) (noFns)

theorem GO10 (n : Nat) : CtxOK Try.prog lay0 (G10 n) := ent_ok (T15 n) (fun _ _ h => h) (noFns_ok)

noncomputable def P10 (n : Nat) : Pl (Res [.bool]) :=
  .leaf

theorem K10 (n : Nat) : PlOK (G10 n) noInl lay0 87 (P10 n) c10 (fnK lay0 [.tmp 0] [] [.val .bool] [.bool]) :=
  trivial

theorem E10 (n : Nat) : F10 n = fnE [] (argDs [] ()) (fun st => ev (G10 n) noInl lay0 87 c10 (P10 n) st (fnK lay0 [.tmp 0] [] [.val .bool] [.bool])) := by kernel_rfl

theorem T10 (n : Nat) : Told Try.prog 10 [] [.bool] (fun x => F10 n) := by
  rintro _ r h
  exact calls_plain (fn_sound lay0_ok mixed (rvs := [.tmp 0]) (by kernel_rfl : Try.prog.funcs[10]? = some Try.f10) (by kernel_rfl : Try.f10.body = some c10) (by kernel_rfl) (by kernel_rfl) (by kernel_rfl) (GO10 n) noInl_ok (K10 n) ((E10 n).symm.trans h)) rfl rfl rfl rfl

/-- With so much fuel. -/
def A10 := F10 1000
theorem TA10 : Told Try.prog 10 [] [.bool] (fun x => A10) := T10 1000

end Go.Proofs.Ytdkelhdlfeendaa.Ab
