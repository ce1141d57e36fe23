/- errors.Is at a code's error, fault.Is and fault.Of, by hand. -/
import Derived.Test.YtllhidkadhoipaaDoorFH4
namespace Go.Proofs.YtllhidkadhoipaaDoor.Ab.Fh
open Go Go.RowKit Go.Proofs Go.Extern.Stop Go.Stop Go.Extern
set_option maxRecDepth 100000
set_option maxHeartbeats 8000000
set_option linter.unusedVariables false
set_option linter.unusedSimpArgs false

theorem cmp49 : (Tryd.prog.info? 49).map (·.comparable) = some true := by kernel_rfl

theorem eql49 (x y : Int) (w : World) : (binOp .eql 26 (.iface 49 (.int .i64 x)) (.iface 49 (.int .i64 y))).run Tryd.prog w = .ok (.bool (x == y)) w := by
  obtain ⟨i, hi, hc⟩ := Option.map_eq_some_iff.1 cmp49
  have h : (Op.equal 26 (.iface 49 (.int .i64 x)) (.iface 49 (.int .i64 y))).run Tryd.prog w = .ok (x == y) w := by
    rw [Op.equal, show Op.maxDepth = 9998 + 1 + 1 from rfl, Op.equalIn, Sem.run_bind, run_underlying Tryd.underlying26, Result.andThen_ok]
    simp only [ne_eq, not_true_eq_false, if_false, Sem.run_bind]
    rw [show (typeInfo 49).run Tryd.prog w = .ok i w by simp [typeInfo, hi], Result.andThen_ok]
    simp only [hc, Bool.not_true, Bool.false_eq_true, if_false, pure_bind]
    rw [Op.equalIn]
    simp only [Sem.run_bind]
    rw [run_underlying Tryd.underlying49, Result.andThen_ok]
    simp
  simp only [binOp, Sem.run_bind, h, Result.andThen_ok]
  rfl

theorem is23 (b : Nat) (c c' : Int) (W : World) (hc0 : W.cell? ⟨b, 0, none⟩ = some (.int .i64 c)) :
    Calls Tryd.prog 23 #[.iface 48 (.pointer (some ⟨b, 0, none⟩)), .iface 49 (.int .i64 c')] W fun ev W' => ev = .returned (.bool (c == c')) ∧ W' = W := by
  have h29 := @run_callFunc_extern Tryd.prog 29 _ ReflectliteType.typeOf Tryd.func29 (by kernel_rfl) (by kernel_rfl) (by kernel_rfl) (by kernel_rfl)
  have h68 := @run_callFunc_extern Tryd.prog 68 _ compF Tryd.func68 (by kernel_rfl) (by kernel_rfl) (by kernel_rfl) (by kernel_rfl)
  have mC := methodComparable
  have t48 := typeOf48
  have t49 := typeOf49
  have c49 := comparable49
  have n1 := noIs48
  have n2 := noIs49
  have n3 := noUn49
  have n4 := noUns49
  have u1 := un48
  have w1 := unwrap48
  have q1 := eql49 c c' W
  have q2 := run_eql_iface_types (P := Tryd.prog) 48 49 (.pointer (some ⟨b, 0, none⟩)) (.int .i64 c') Tryd.underlying26 (by decide) W
  have is30 : Calls Tryd.prog 30 #[.iface 48 (.pointer (some ⟨b, 0, none⟩)), .iface 49 (.int .i64 c'), .bool true] W fun ev W' => ev = .returned (.bool (c == c')) ∧ W' = W := by
    go_enter Tryd.func30, Tryd.ntmps30
    go_wp2
    refine wp_loop_rounds 2 ?_
    rw [rounds_succ]
    go_wp2_with (go_at_call 56; refine (unwrap56 b _ _ hc0).mono ?_; rintro e w' ⟨rfl, e1⟩; obtain rfl : W = w' := e1.symm)
    rw [rounds_succ]
    cases hq : (c == c')
    · rw [hq] at q1
      go_wp2
      go_ret
      exact ⟨by rw [hq]; rfl, rfl⟩
    · rw [hq] at q1
      go_wp2
      go_ret
      exact ⟨by rw [hq]; rfl, rfl⟩
  go_enter Tryd.func23, Tryd.ntmps23
  go_wp2_with (go_at_call 30; refine is30.mono ?_; rintro e w' ⟨rfl, e1⟩; obtain rfl : W = w' := e1.symm)
  go_ret
  exact ⟨rfl, rfl⟩

end Go.Proofs.YtllhidkadhoipaaDoor.Ab.Fh
