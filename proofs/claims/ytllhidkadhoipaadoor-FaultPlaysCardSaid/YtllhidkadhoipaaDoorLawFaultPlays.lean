/- The law FaultPlays: whatever the input, it returns true, and its arguments read as they did. For every input; the variables that the row lists are laid by the program's text. -/
import Derived.Test.YtllhidkadhoipaaDoorRows
import Derived.Test.YtllhidkadhoipaaDoorTie
import Derived.Test.YtllhidkadhoipaaDoorCards
import Derived.Test.YtllhidkadhoipaaDoorRW
import Derived.Test.YtllhidkadhoipaaDoorFP3
import Derived.Test.YtllhidkadhoipaaDoorC24
import Derived.WalkKit
import Derived.ProofKit
import Derived.OpenShut
import Derived.ShutString
import Derived.ChangeOld
import Derived.Below
import Derived.SizedLaws
import Derived.PinnedBridge
import Derived.Lay
import Derived.SevenTiedAt
namespace Go.Proofs.YtllhidkadhoipaaDoor.faultPlays
open Go.ChangeShapes Go.WideShapes Go.ChangeAt Go.RowKit Go.Proofs.YtllhidkadhoipaaDoor.Ab
open Go.ChangeMaps (open_string shut_string)
set_option linter.unusedVariables false
theorem own : ownKnob Tryd.prog.godebug = none := by kernel_rfl
theorem laidOut : laidOutB Tryd.prog = true := by kernel_rfl
set_option maxRecDepth 100000 in
theorem lifted (os : Os) (started : os.Started) (H : Type) (enc : TypeId × Value → H) :
    ReturnsInHanded {} Tryd.checked os 3 .any (fun w args => (Rows.faultPlaysSpec.pre enc Tryd.prog Tryd.f3 [] false w args ∧ laidMetH Tryd.prog Rows.faultPlaysRow.laid w) ∧ sizedMet enc Tryd.prog Tryd.f3 (OpenSpec.ofChange Rows.faultPlaysSpec) false w args) (Rows.faultPlaysSpec.post enc Tryd.prog Tryd.f3 false true false false) := by
  refine returnsInHanded_of_change_and (C := Tryd.checked) (X := fun w _ => laidMetH Tryd.prog Rows.faultPlaysRow.laid w) (fun _ _ _ hh h => h.of_heap hh) own started (by kernel_rfl) Tryd.func3
    (ChangeSpec.witness_shaped (enc := enc) (C := Tryd.checked) (os := os) (X := fun w _ => laidMetH Tryd.prog Rows.faultPlaysRow.laid w) false (laidW os) #[.int .i64 0, .int .i64 0, .slice none 0 0, .slice none 0 0, .int .i64 0] 8 (laidW_os _)
      (laidW_shaped _ _) (by kernel_rfl) (by kernel_rfl) (by kernel_rfl)
      (laidW_met os _)) ?_
  intro W base args ds gs before hval0 hW _ _ hsh _
  have hval : ∀ (j : Nat) t v, Tryd.f3.params[j]? = some t → args[j]? = some v → Value.okWide Tryd.prog W .any base t v := hval0
  have hW' := hW
  obtain ⟨p, q, hA0, hV, rfl, hfz, hnd⟩ := hW
  have hA : DataW.TrodAll enc Tryd.prog W 0 (fun _ => true) true Tryd.f3.params.toList args.toList ds p := hA0
  rw [Tryd.params3] at hA hval
  obtain ⟨v0, vs0, d0, ds0, p0, q0, hargs, rfl, rfl, h0, r0⟩ := trodAll_cons hA
  obtain ⟨v1, vs1, d1, ds1, p1, q1, rfl, rfl, rfl, h1, r1⟩ := trodAll_cons r0
  obtain ⟨v2, vs2, d2, ds2, p2, q2, rfl, rfl, rfl, h2, r2⟩ := trodAll_cons r1
  obtain ⟨v3, vs3, d3, ds3, p3, q3, rfl, rfl, rfl, h3, r3⟩ := trodAll_cons r2
  obtain ⟨v4, vs4, d4, ds4, p4, q4, rfl, rfl, rfl, h4, r4⟩ := trodAll_cons r3
  obtain ⟨rfl, rfl, rfl⟩ := trodAll_nil r4
  obtain rfl : args = #[v0, v1, v2, v3, v4] := by cases args; simp_all
  obtain ⟨rfl, rfl⟩ := trodVars_none hV
  obtain ⟨x0, rfl⟩ := okWide_int Tryd.underlying3 (hval 0 3 v0 rfl rfl)
  have k0 := h0
  have lt0 : ∀ x ∈ p0, x.block < W.heap.size := by obtain ⟨m, hm⟩ := k0; exact DataW.trod_lt m _ _ _ hm
  have s0 : Ab.SV (Ab.Low W) W (.val (.int .i64) x0) (.int .i64 x0) := ⟨[_], rfl, rfl, rfl⟩
  obtain ⟨f0, _⟩ : (Lit.int .i64 x0).wf = true ∧ True := by obtain ⟨m, hm⟩ := h0; obtain ⟨y, e, _, hw⟩ := DataW.trod_int Tryd.underlying3 hm; simp [Value.cells] at e; subst e; exact ⟨hw, trivial⟩
  obtain ⟨x1, rfl⟩ := okWide_int Tryd.underlying3 (hval 1 3 v1 rfl rfl)
  have k1 := h1
  have lt1 : ∀ x ∈ p1, x.block < W.heap.size := by obtain ⟨m, hm⟩ := k1; exact DataW.trod_lt m _ _ _ hm
  have s1 : Ab.SV (Ab.Low W) W (.val (.int .i64) x1) (.int .i64 x1) := ⟨[_], rfl, rfl, rfl⟩
  obtain ⟨f1, _⟩ : (Lit.int .i64 x1).wf = true ∧ True := by obtain ⟨m, hm⟩ := h1; obtain ⟨y, e, _, hw⟩ := DataW.trod_int Tryd.underlying3 hm; simp [Value.cells] at e; subst e; exact ⟨hw, trivial⟩
  obtain ⟨a2, len2, cap2, rfl⟩ := okWide_slice Tryd.underlying22 (hval 2 22 v2 rfl rfl)
  have k2 := h2
  have lt2 : ∀ x ∈ p2, x.block < W.heap.size := by obtain ⟨m, hm⟩ := k2; exact DataW.trod_lt m _ _ _ hm
  obtain ⟨x2, s2, f2⟩ := Ab.open_slice (τ := .str) (n := 20) (by kernel_rfl) h2
  obtain ⟨a3, len3, cap3, rfl⟩ := okWide_slice Tryd.underlying23 (hval 3 23 v3 rfl rfl)
  have k3 := h3
  have lt3 : ∀ x ∈ p3, x.block < W.heap.size := by obtain ⟨m, hm⟩ := k3; exact DataW.trod_lt m _ _ _ hm
  obtain ⟨x3, s3, f3⟩ := Ab.open_slice (τ := .int .i64) (n := 20) (by kernel_rfl) h3
  obtain ⟨x4, rfl⟩ := okWide_int Tryd.underlying3 (hval 4 3 v4 rfl rfl)
  have k4 := h4
  have lt4 : ∀ x ∈ p4, x.block < W.heap.size := by obtain ⟨m, hm⟩ := k4; exact DataW.trod_lt m _ _ _ hm
  have s4 : Ab.SV (Ab.Low W) W (.val (.int .i64) x4) (.int .i64 x4) := ⟨[_], rfl, rfl, rfl⟩
  obtain ⟨f4, _⟩ : (Lit.int .i64 x4).wf = true ∧ True := by obtain ⟨m, hm⟩ := h4; obtain ⟨y, e, _, hw⟩ := DataW.trod_int Tryd.underlying3 hm; simp [Value.cells] at e; subst e; exact ⟨hw, trivial⟩
  clear hA0 hval0
  refine (Ab.said (S := Ab.Low W) ((Ab.T3 101 (x0, x1, x2, x3, x4) true (Ab.Fp.faultPlays_pure 101 (by decide) x0 x1 (by have h := f1; simp [Lit.wf, IntKind.min, IntKind.max, IntKind.signed, IntKind.bits] at h; exact h) x2 x3 x4))) (base_of hsh) (fun _ h => h) (.cons s0 (.cons s1 (.cons s2 (.cons s3 (.cons s4 .nil)))))).mono fun e W' ⟨he, bel⟩ => ?_
  subst he
  exact ⟨_, rfl, _, _, _, [], _, [], hW', trodAll_mk1 (shut_bool Tryd.underlying4 _), (trodAll_cons_mk (Below.trod laidOut (by kernel_rfl) (of_decide_eq_true (by kernel_rfl)) k0 bel lt0) (trodAll_cons_mk (Below.trod laidOut (by kernel_rfl) (of_decide_eq_true (by kernel_rfl)) k1 bel lt1) (trodAll_cons_mk (Below.trod laidOut (by kernel_rfl) (of_decide_eq_true (by kernel_rfl)) k2 bel lt2) (trodAll_cons_mk (Below.trod laidOut (by kernel_rfl) (of_decide_eq_true (by kernel_rfl)) k3 bel lt3) (trodAll_cons_mk (Below.trod laidOut (by kernel_rfl) (of_decide_eq_true (by kernel_rfl)) k4 bel lt4) trodAll_mk0))))), rfl, bel.frame _, fun h => by cases h⟩
theorem over : Rows.faultPlaysRow.holds Tryd.pinned (OpenSpec.ofChange Rows.faultPlaysSpec) :=
  OpenClaim.holds_of_wide 3 Tryd.f3 rfl rfl rfl rfl rfl rfl rfl ⟨rfl, rfl, rfl, rfl, rfl⟩ rfl rfl rfl rfl rfl (by kernel_rfl) Tryd.func3 (by kernel_rfl)
    (of_decide_eq_true (by kernel_rfl)) (by unfold Func.isWrapper; first | (rw [if_pos (by decide +kernel)]; kernel_rfl) | (rw [if_neg (by decide +kernel)]; exact ⟨rfl, rfl⟩))
    (fun os started H enc _ => lifted os started H enc)
theorem card_holds : Rows.FaultPlaysCardSaid :=
  Claim7.holds_tied_plain_at .later [] [.handle, .listed, .data] true (true, "8b44a86659b920b0424c6e0dfcc4c9c8897c1b024fd441f40ebf15d92b693c0d") true over (fun _ h => by cases h) (by kernel_rfl) (fun _ h => by cases h) faultPlays_row_tie rfl ⟨rfl, rfl⟩ (by kernel_rfl) rfl
    (fun f fn hf hfn => by
      obtain rfl : f = 3 := Option.some.inj ((show Tryd.prog.funcNamed "orthoepy/orthoepylaw14.FaultPlays" = some 3 by kernel_rfl).symm.trans hf) |>.symm
      obtain rfl : fn = Tryd.f3 := (Option.some.inj (Tryd.func3.symm.trans hfn)).symm
      exact ⟨by kernel_rfl, fun j t ht => by
        rw [Tryd.params3] at ht
        have hm : t ∈ [3, 22, 23] := by have := Array.mem_of_getElem? ht; simp only [List.mem_toArray, List.mem_cons, List.not_mem_nil, or_false] at this ⊢; rcases this with rfl | rfl | rfl | rfl | rfl <;> simp
        have hall : ([3, 22, 23].all fun u => !Tryd.prog.wantsStandIn u) = true := by kernel_rfl
        exact (show Tryd.prog.wantsStandIn t = false by simpa using List.all_eq_true.1 hall t hm)⟩)
    (by kernel_rfl)
#print axioms card_holds
end Go.Proofs.YtllhidkadhoipaaDoor.faultPlays
namespace Go.Proofs.YtllhidkadhoipaaDoor
/-- The card, under a short name, for the claim. -/
theorem faultPlays_holds : Rows.FaultPlaysCardSaid := faultPlays.card_holds
end Go.Proofs.YtllhidkadhoipaaDoor

