/- The law PointerPaths: whatever the input, it returns true, and its arguments read as they did. For every input; the variables that the row lists are laid by the program's text. -/
import Derived.Test.YtaeamjhgfhcjdaaDoorRows
import Derived.Test.YtaeamjhgfhcjdaaDoorTie
import Derived.Test.YtaeamjhgfhcjdaaDoorCards
import Derived.Test.YtaeamjhgfhcjdaaDoorRW
import Derived.Test.YtaeamjhgfhcjdaaDoorP5
import Derived.WalkKit
import Derived.ProofKit
import Derived.OpenShut
import Derived.ShutString
import Derived.ChangeOld
import Derived.Below
import Derived.SizedLaws
import Derived.PinnedBridge
import Derived.Lay
import Derived.SevenTiedAt
namespace Go.Proofs.YtaeamjhgfhcjdaaDoor.pointerPaths
open Go.ChangeShapes Go.WideShapes Go.ChangeAt Go.RowKit Go.Proofs.YtaeamjhgfhcjdaaDoor.Ab
open Go.ChangeMaps (open_string shut_string)
set_option linter.unusedVariables false
theorem own : ownKnob Tryd.prog.godebug = none := by kernel_rfl
theorem laidOut : laidOutB Tryd.prog = true := by kernel_rfl
set_option maxRecDepth 100000 in
theorem lifted (os : Os) (started : os.Started) (H : Type) (enc : TypeId × Value → H) :
    ReturnsInHanded {} Tryd.checked os 9 .any (fun w args => (Rows.pointerPathsSpec.pre enc Tryd.prog Tryd.f9 [] false w args ∧ laidMetH Tryd.prog Rows.pointerPathsRow.laid w) ∧ sizedMet enc Tryd.prog Tryd.f9 (OpenSpec.ofChange Rows.pointerPathsSpec) false w args) (Rows.pointerPathsSpec.post enc Tryd.prog Tryd.f9 false true false false) := by
  refine handed_and_shaped (C := Tryd.checked) (X := fun w _ => laidMetH Tryd.prog Rows.pointerPathsRow.laid w) (fun _ _ _ hh h => h.of_heap hh) own started (by kernel_rfl) Tryd.func9
    (ChangeSpec.witness_shaped (enc := enc) (C := Tryd.checked) (os := os) (X := fun w _ => laidMetH Tryd.prog Rows.pointerPathsRow.laid w) false (World.laidAll Tryd.prog os Rows.pointerPathsRow.laid) #[.slice none 0 0, .bool false, .int .i64 0] 8 (World.laidAll_os _ _ _)
      (World.shaped_of_ZipB (by kernel_rfl) (by kernel_rfl)) (by kernel_rfl) (by kernel_rfl) (by kernel_rfl)
      (by rw [MakeChecks.laidMetH_plain _ _ _ (by kernel_rfl)]; exact laidMet_laidAll _ (by kernel_rfl) (by kernel_rfl))) ?_
  intro W base args ds gs before hval0 hW hsh
  have hval : ∀ (j : Nat) t v, Tryd.f9.params[j]? = some t → args[j]? = some v → Value.okWide Tryd.prog W .any base t v := hval0
  have hW' := hW
  obtain ⟨p, q, hA0, hV, rfl, hfz, hnd⟩ := hW
  have hA : DataW.TrodAll enc Tryd.prog W 0 (fun _ => true) true Tryd.f9.params.toList args.toList ds p := hA0
  rw [Tryd.params9] at hA hval
  obtain ⟨v0, vs0, d0, ds0, p0, q0, hargs, rfl, rfl, h0, r0⟩ := trodAll_cons hA
  obtain ⟨v1, vs1, d1, ds1, p1, q1, rfl, rfl, rfl, h1, r1⟩ := trodAll_cons r0
  obtain ⟨v2, vs2, d2, ds2, p2, q2, rfl, rfl, rfl, h2, r2⟩ := trodAll_cons r1
  obtain ⟨rfl, rfl, rfl⟩ := trodAll_nil r2
  obtain rfl : args = #[v0, v1, v2] := by cases args; simp_all
  obtain ⟨rfl, rfl⟩ := trodVars_none hV
  obtain ⟨a0, len0, cap0, rfl⟩ := okWide_slice Tryd.underlying41 (hval 0 41 v0 rfl rfl)
  have k0 := h0
  have lt0 : ∀ x ∈ p0, x.block < W.heap.size := by obtain ⟨m, hm⟩ := k0; exact DataW.trod_lt m _ _ _ hm
  obtain ⟨x0, s0, f0⟩ := Ab.open_slice (τ := (.int .i64)) (n := 20) (by kernel_rfl) h0
  obtain ⟨x1, rfl⟩ := okWide_bool Tryd.underlying4 (hval 1 4 v1 rfl rfl)
  have k1 := h1
  have lt1 : ∀ x ∈ p1, x.block < W.heap.size := by obtain ⟨m, hm⟩ := k1; exact DataW.trod_lt m _ _ _ hm
  have s1 : Ab.SV (Ab.Low W) W (.val .bool x1) (.bool x1) := ⟨[_], rfl, rfl, rfl⟩
  obtain ⟨x2, rfl⟩ := okWide_int Tryd.underlying3 (hval 2 3 v2 rfl rfl)
  have k2 := h2
  have lt2 : ∀ x ∈ p2, x.block < W.heap.size := by obtain ⟨m, hm⟩ := k2; exact DataW.trod_lt m _ _ _ hm
  have s2 : Ab.SV (Ab.Low W) W (.val (.int .i64) x2) (.int .i64 x2) := ⟨[_], rfl, rfl, rfl⟩
  obtain ⟨f2, _⟩ : (Lit.int .i64 x2).wf = true ∧ True := by obtain ⟨m, hm⟩ := h2; obtain ⟨y, e, _, hw⟩ := DataW.trod_int Tryd.underlying3 hm; simp [Value.cells] at e; subst e; exact ⟨hw, trivial⟩
  clear hA0 hval0
  refine (Ab.said (S := Ab.Low W) (Ab.T9 100000 (x0, x1, x2) true (Ab.Pt.pointerPaths_pure x0 x1 x2)) (base_of hsh) (fun _ h => h) (.cons s0 (.cons s1 (.cons s2 .nil)))).mono fun e W' ⟨he, bel⟩ => ?_
  subst he
  exact ⟨_, rfl, _, _, _, [], _, [], hW', trodAll_mk1 (shut_bool Tryd.underlying4 _), (trodAll_cons_mk (Below.trod laidOut (by kernel_rfl) (of_decide_eq_true (by kernel_rfl)) k0 bel lt0) (trodAll_cons_mk (Below.trod laidOut (by kernel_rfl) (of_decide_eq_true (by kernel_rfl)) k1 bel lt1) (trodAll_cons_mk (Below.trod laidOut (by kernel_rfl) (of_decide_eq_true (by kernel_rfl)) k2 bel lt2) trodAll_mk0))), rfl, bel.frame _, fun h => by cases h⟩
theorem over : Rows.pointerPathsRow.holds Tryd.pinned (OpenSpec.ofChange Rows.pointerPathsSpec) :=
  OpenClaim.holds_of_wide 9 Tryd.f9 rfl rfl rfl rfl rfl rfl rfl ⟨rfl, rfl, rfl, rfl, rfl⟩ rfl rfl rfl rfl rfl (by kernel_rfl) Tryd.func9 (by kernel_rfl)
    (of_decide_eq_true (by kernel_rfl)) (by unfold Func.isWrapper; first | (rw [if_pos (by decide +kernel)]; kernel_rfl) | (rw [if_neg (by decide +kernel)]; exact ⟨rfl, rfl⟩))
    (fun os started H enc _ => lifted os started H enc)
theorem card_holds : Rows.PointerPathsCardSaid :=
  Claim7.holds_tied_plain_at .later [] [.data, .pinned] true (true, "535fbc9a1d833f598adf5d2a1830951dbcc77ee69438b8981ff7a96c303a107e") false over (fun _ h => by cases h) (by kernel_rfl) (fun _ h => by cases h) pointerPaths_row_tie rfl ⟨rfl, rfl⟩ (by kernel_rfl) rfl
    (fun f fn hf hfn => by
      obtain rfl : f = 9 := Option.some.inj ((show Tryd.prog.funcNamed "orthoepy/orthoepylaw25.PointerPaths" = some 9 by kernel_rfl).symm.trans hf) |>.symm
      obtain rfl : fn = Tryd.f9 := (Option.some.inj (Tryd.func9.symm.trans hfn)).symm
      exact ⟨by kernel_rfl, fun j t ht => by
        rw [Tryd.params9] at ht
        have hm : t ∈ [3, 4, 41] := by have := Array.mem_of_getElem? ht; simp only [List.mem_toArray, List.mem_cons, List.not_mem_nil, or_false] at this ⊢; rcases this with rfl | rfl | rfl <;> simp
        have hall : ([3, 4, 41].all fun u => !Tryd.prog.wantsStandIn u) = true := by kernel_rfl
        exact (show Tryd.prog.wantsStandIn t = false by simpa using List.all_eq_true.1 hall t hm)⟩)
    (by kernel_rfl)
#print axioms card_holds
end Go.Proofs.YtaeamjhgfhcjdaaDoor.pointerPaths
namespace Go.Proofs.YtaeamjhgfhcjdaaDoor
/-- The card, under a short name, for the claim. -/
theorem pointerPaths_holds : Rows.PointerPathsCardSaid := pointerPaths.card_holds
end Go.Proofs.YtaeamjhgfhcjdaaDoor

