/- errors.As at the target **input, and errors.As itself at both targets, by hand. -/
import Derived.Test.YtllhidkadhoipaaDoorFH3
namespace Go.Proofs.YtllhidkadhoipaaDoor.Ab.Fh
open Go Go.RowKit Go.Proofs Go.Extern.Stop Go.Stop Go.Extern
set_option maxRecDepth 100000
set_option maxHeartbeats 8000000
set_option linter.unusedVariables false
set_option linter.unusedSimpArgs false

/-- The input that was told last. -/
def Er.inputO : Er → Option Int
  | .nil => none
  | .prob _ _ => none
  | .wrap e _ => Er.inputO e
  | .inp _ n => some n

theorem as28_inp {S : Nat → Prop} (a t : Addr) (old : Value) (e0 : Er) (v0 : Value) (W : World) (hr0 : ErrRep S W e0 v0) (hS : ∀ b, S b → b < W.heap.size) (hn0 : e0.isNil = false)
    (ha : W.cell? a = some (.pointer (some t))) (ht : W.cell? t = some old) (hf : W.frozen? t = false) :
    Calls Tryd.prog 28 #[v0, .iface 60 (.pointer (some t)), .agg #[hd 60, .pointer (some a), .int .u64 150], rt 55] W fun ev W' =>
      (ev = .returned (.bool true) ∧ ∃ n b W1, Er.inputO e0 = some n ∧ S b ∧ W.cell? ⟨b, 1, none⟩ = some (.int .i64 n) ∧ Below W.heap.size W W1 ∧ W' = W1.setCell t (.pointer (some ⟨b, 0, none⟩))) ∨
      (ev = .returned (.bool false) ∧ Er.inputO e0 = none ∧ Below W.heap.size W W') := by
  have h25 := @run_callFunc_extern Tryd.prog 25 _ (fun args => ReflectliteValue.unpack (args.getD 0 (.tuple #[]))) Tryd.func25 (by kernel_rfl) (by kernel_rfl) (by kernel_rfl) (by kernel_rfl)
  have h29 := @run_callFunc_extern Tryd.prog 29 _ ReflectliteType.typeOf Tryd.func29 (by kernel_rfl) (by kernel_rfl) (by kernel_rfl) (by kernel_rfl)
  have h67 := @run_callFunc_extern Tryd.prog 67 _ (ReflectliteType.relation "AssignableTo" ReflectliteType.assignableTo) Tryd.func67 (by kernel_rfl) (by kernel_rfl) (by kernel_rfl) (by kernel_rfl)
  have h33 := @run_callFunc_extern Tryd.prog 33 _ (ReflectliteValue.method (ReflectliteValue.valueError "reflectlite.Value.Elem" 0) ReflectliteValue.elem) Tryd.func33 (by kernel_rfl) (by kernel_rfl) (by kernel_rfl) (by kernel_rfl)
  have h34 := @run_callFunc_extern Tryd.prog 34 _ ReflectliteValue.set Tryd.func34 (by kernel_rfl) (by kernel_rfl) (by kernel_rfl) (by kernel_rfl)
  have mA := methodAssignableTo
  have t48 := typeOf48
  have t49 := typeOf49
  have t52 := typeOf52
  have t55 := typeOf55
  have a0' := as4855
  have a1 := as4955
  have a2 := as5255
  have a3 := as5555
  have n0 := noAs48
  have n1 := noAs52
  have n2 := noAs49
  have n3 := noUn49
  have n4 := noUns49
  have u0' := un48
  have u1 := un52
  have w0 := unwrap48
  have w1 := unwrap52
  have v55 := valueOf55
  obtain ⟨W1, hW1⟩ : ∃ W1, W.alloc (.cells #[hd 60, .pointer (some a), .int .u64 150] 67) = W1 := ⟨_, rfl⟩
  have hB1 : Below W.heap.size W W1 := by rw [← hW1]; exact (Below.refl _ W).alloc (Nat.le_refl _) _
  have hal : a.block < W.heap.size := by
    rcases Nat.lt_or_ge a.block W.heap.size with h | h
    · exact h
    · simp [World.cell?, Array.getElem?_eq_none h] at ha
  have htl : t.block < W.heap.size := by
    rcases Nat.lt_or_ge t.block W.heap.size with h | h
    · exact h
    · simp [World.cell?, Array.getElem?_eq_none h] at ht
  have hr1 : ErrRep S W1 e0 v0 := hr0.mono ⟨fun _ h => h, fun b hb => hB1.block b (hS b hb)⟩
  have ha1 : W1.cell? a = some (.pointer (some t)) := (World.cell?_of_block (hB1.block _ hal)).trans ha
  have ht1 : W1.cell? t = some old := (World.cell?_of_block (hB1.block _ htl)).trans ht
  have hf1 : W1.frozen? t = false := by rw [← hW1, World.frozen?_alloc_old _ _ t (Nat.ne_of_lt htl)]; exact hf
  have el := elemV60 a t W1 ha1
  have hl1 : W1.cell? ⟨W.heap.size, 0, none⟩ = some (hd 60) := by rw [← hW1, World.cell?_alloc_at _ _ _ _ (by simp)]; rfl
  have hl2 : W1.cell? ⟨W.heap.size, 1, none⟩ = some (.pointer (some a)) := by rw [← hW1, World.cell?_alloc_at _ _ _ _ (by simp)]; rfl
  have hl3 : W1.cell? ⟨W.heap.size, 2, none⟩ = some (.int .u64 150) := by rw [← hW1, World.cell?_alloc_at _ _ _ _ (by simp)]; rfl
  go_enter Tryd.func28, Tryd.ntmps28
  go_wp2
  go_loopg [0] (Er.size e0) (fun g s0 wx => W1 = wx ∧ ((∃ e, g = Er.size e ∧ e.isNil = false ∧ ErrRep S W1 e s0 ∧ Er.inputO e = Er.inputO e0) ∨ ∃ c, g = 0 ∧ s0 = .iface 49 (.int .i64 c) ∧ Er.inputO e0 = none))
  case atStart => exact ⟨rfl, .inl ⟨e0, rfl, hn0, hr1, rfl⟩⟩
  case round =>
    obtain ⟨rfl, ⟨e, rfl, hn, hr, hi⟩ | ⟨c, rfl, rfl, hi⟩⟩ := hrel
    · cases e with
      | nil => cases hn
      | prob c a0 =>
        obtain ⟨b, rfl, hb, hc0, hc1⟩ := er48 hr
        go_wp2_with (go_at_call 56; refine (unwrap56 b _ _ hc0).mono ?_; rintro e w' ⟨rfl, e1⟩; obtain rfl : W1 = w' := e1.symm)
        go_roundg 0
        case rel => exact ⟨rfl, .inr ⟨c, rfl, rfl, hi.symm⟩⟩
        case measure => simp [Er.size]
      | wrap e s =>
        obtain ⟨hn', b, tt, uu, rfl, hb, hc0, hc1, hr'⟩ := er52 hr
        go_wp2_with (go_at_call 60; refine (unwrap60 b _ _ hc0).mono ?_; rintro e w' ⟨rfl, e1⟩; obtain rfl : W1 = w' := e1.symm)
        go_roundg (Er.size e)
        case rel => exact ⟨rfl, .inl ⟨e, rfl, hn', hr', hi⟩⟩
        case measure => simp [Er.size]
      | inp e n =>
        obtain ⟨hn', b, tt, uu, rfl, hb, hc0, hc1, hr'⟩ := er55 hr
        have hsz : W1.heap.size = W.heap.size + 1 := by rw [← hW1]; simp
        have st := set55 t ⟨W1.heap.size, 0, none⟩ ⟨b, 0, none⟩ old (W1.alloc (.cells #[.pointer (some ⟨b, 0, none⟩)] 55)) (by rw [World.cell?_alloc_at _ _ _ _ (by simp)]; rfl)
          (by rw [World.cell?_alloc_lt _ _ t (by omega)]; exact ht1) (by rw [World.frozen?_alloc_old _ _ t (by omega)]; exact hf1)
        rw [hsz] at st
        go_wp2
        go_ret
        exact .inl ⟨rfl, n, b, _, hi.symm, hb, (World.cell?_of_block (hB1.block _ (hS b hb))).symm.trans hc1, hB1.trans ((Below.refl _ W1).alloc (by omega) _), rfl⟩
    · go_wp2
      go_ret
      exact .inr ⟨rfl, hi, hB1⟩

theorem as21_nil (t : Value) (w : World) : Calls Tryd.prog 21 #[.nilIface, t] w fun e w' => e = .returned (.bool false) ∧ w' = w := by
  go_enter Tryd.func21, Tryd.ntmps21
  go_wp2
  go_ret
  exact ⟨rfl, rfl⟩

theorem as21_prob {S : Nat → Prop} (t : Addr) (old : Value) (e0 : Er) (v0 : Value) (W : World) (hr0 : ErrRep S W e0 v0) (hS : ∀ b, S b → b < W.heap.size) (hn0 : e0.isNil = false)
    (hg : W.cell? ⟨0, 0, none⟩ = some (rt 26)) (ht : W.cell? t = some old) (hf : W.frozen? t = false) :
    Calls Tryd.prog 21 #[v0, .iface 59 (.pointer (some t))] W fun ev W' =>
      ev = .returned (.bool true) ∧ ∃ b W1, S b ∧ W.cell? ⟨b, 0, none⟩ = some (.int .i64 (Er.inner e0).1) ∧ W.cell? ⟨b, 1, none⟩ = some (.int .i64 (Er.inner e0).2) ∧ Below W.heap.size W W1 ∧ W' = W1.setCell t (.pointer (some ⟨b, 0, none⟩)) := by
  have h25 := @run_callFunc_extern Tryd.prog 25 _ (fun args => ReflectliteValue.unpack (args.getD 0 (.tuple #[]))) Tryd.func25 (by kernel_rfl) (by kernel_rfl) (by kernel_rfl) (by kernel_rfl)
  have h26 := @run_callFunc_extern Tryd.prog 26 _ (ReflectliteValue.methodAny (ReflectliteValue.valueError "reflectlite.Value.Type" 0) (fun t _ _ _ => ReflectliteType.toType t)) Tryd.func26 (by kernel_rfl) (by kernel_rfl) (by kernel_rfl) (by kernel_rfl)
  have h27 := @run_callFunc_extern Tryd.prog 27 _ (ReflectliteValue.method (ReflectliteValue.valueError "reflectlite.Value.IsNil" 0) ReflectliteValue.isNil) Tryd.func27 (by kernel_rfl) (by kernel_rfl) (by kernel_rfl) (by kernel_rfl)
  have h52 := @run_callFunc_extern Tryd.prog 52 _ (ReflectliteType.abiMethod fun t => do pure (.int .u8 (← Rtype.kind t))) Tryd.func52 (by kernel_rfl) (by kernel_rfl) (by kernel_rfl) (by kernel_rfl)
  have h69 := @run_callFunc_extern Tryd.prog 69 _ (ReflectliteType.method ReflectliteType.elem) Tryd.func69 (by kernel_rfl) (by kernel_rfl) (by kernel_rfl) (by kernel_rfl)
  have h70 := @run_callFunc_extern Tryd.prog 70 _ (ReflectliteType.relation "Implements" ReflectliteType.implements_) Tryd.func70 (by kernel_rfl) (by kernel_rfl) (by kernel_rfl) (by kernel_rfl)
  have f6 := valueOf59
  have f7 := type59
  have mK := methodKind
  have mE := methodElem
  have mI := methodImplements
  have k1 := kind59
  have k2 := kind48
  have e1 := elem59
  have i1 := implements48
  obtain ⟨Wa, hWa⟩ : ∃ Wa, W.alloc (.cells #[.pointer (some t)] 59) = Wa := ⟨_, rfl⟩
  obtain ⟨Wb, hWb⟩ : ∃ Wb, Wa.alloc (.cells #[hd 59, .pointer (some ⟨W.heap.size, 0, none⟩), .int .u64 150] 67) = Wb := ⟨_, rfl⟩
  have hlt : 0 < W.heap.size := by
    rcases Nat.eq_zero_or_pos W.heap.size with h0 | h
    · simp [World.cell?, h0] at hg
    · exact h
  have htl : t.block < W.heap.size := by
    rcases Nat.lt_or_ge t.block W.heap.size with h | h
    · exact h
    · simp [World.cell?, Array.getElem?_eq_none h] at ht
  have hsa : Wa.heap.size = W.heap.size + 1 := by rw [← hWa]; simp
  have hBa : Below W.heap.size W Wa := by rw [← hWa]; exact (Below.refl _ W).alloc (Nat.le_refl _) _
  have hBb : Below W.heap.size W Wb := by rw [← hWb]; exact hBa.alloc (by omega) _
  have hca : Wb.cell? ⟨W.heap.size, 0, none⟩ = some (.pointer (some t)) := by
    rw [← hWb, World.cell?_alloc_lt _ _ ⟨W.heap.size, 0, none⟩ (by simp; omega), ← hWa, World.cell?_alloc_at _ _ _ _ (by simp)]; rfl
  have hgb : Wb.cell? ⟨0, 0, none⟩ = some (rt 26) := (World.cell?_of_block (hBb.block 0 hlt)).trans hg
  have htb : Wb.cell? t = some old := (World.cell?_of_block (hBb.block _ htl)).trans ht
  have hfb : Wb.frozen? t = false := by rw [← hWb, World.frozen?_alloc_old _ _ t (by omega), ← hWa, World.frozen?_alloc_old _ _ t (by omega)]; exact hf
  have hl1 : Wb.cell? ⟨W.heap.size + 1, 0, none⟩ = some (hd 59) := by rw [← hWb, ← hsa, World.cell?_alloc_at _ _ _ _ (by simp)]; rfl
  have hl2 : Wb.cell? ⟨W.heap.size + 1, 1, none⟩ = some (.pointer (some ⟨W.heap.size, 0, none⟩)) := by rw [← hWb, ← hsa, World.cell?_alloc_at _ _ _ _ (by simp)]; rfl
  have hl3 : Wb.cell? ⟨W.heap.size + 1, 2, none⟩ = some (.int .u64 150) := by rw [← hWb, ← hsa, World.cell?_alloc_at _ _ _ _ (by simp)]; rfl
  have n8 := isNil59 ⟨W.heap.size, 0, none⟩ t Wb hca
  have hrb : ErrRep S Wb e0 v0 := hr0.mono ⟨fun _ h => h, fun b hb => hBb.block b (hS b hb)⟩
  have hSb : ∀ b, S b → b < Wb.heap.size := fun b hb => Nat.lt_of_lt_of_le (hS b hb) hBb.size
  obtain ⟨tt, uu, rfl⟩ : ∃ tt uu, v0 = .iface tt uu := by
    rcases hr0.nilOr with ⟨_, h⟩ | ⟨h, _⟩
    · rw [hn0] at h; cases h
    · exact h
  go_enter Tryd.func21, Tryd.ntmps21
  go_wp2_with (go_at_call 28; refine (as28_prob ⟨W.heap.size, 0, none⟩ t old e0 _ Wb hrb hSb hn0 hca htb hfb).mono ?_; rintro e w' ⟨rfl, b, W1, hb, hc0, hc1, hB, rfl⟩)
  go_ret
  exact ⟨rfl, b, W1, hb, (World.cell?_of_block (hBb.block _ (hS b hb))).symm.trans hc0, (World.cell?_of_block (hBb.block _ (hS b hb))).symm.trans hc1, hBb.trans (hB.mono hBb.size), rfl⟩

theorem as21_inp {S : Nat → Prop} (t : Addr) (old : Value) (e0 : Er) (v0 : Value) (W : World) (hr0 : ErrRep S W e0 v0) (hS : ∀ b, S b → b < W.heap.size) (hn0 : e0.isNil = false)
    (hg : W.cell? ⟨0, 0, none⟩ = some (rt 26)) (ht : W.cell? t = some old) (hf : W.frozen? t = false) :
    Calls Tryd.prog 21 #[v0, .iface 60 (.pointer (some t))] W fun ev W' =>
      (ev = .returned (.bool true) ∧ ∃ n b W1, Er.inputO e0 = some n ∧ S b ∧ W.cell? ⟨b, 1, none⟩ = some (.int .i64 n) ∧ Below W.heap.size W W1 ∧ W' = W1.setCell t (.pointer (some ⟨b, 0, none⟩))) ∨
      (ev = .returned (.bool false) ∧ Er.inputO e0 = none ∧ Below W.heap.size W W') := by
  have h25 := @run_callFunc_extern Tryd.prog 25 _ (fun args => ReflectliteValue.unpack (args.getD 0 (.tuple #[]))) Tryd.func25 (by kernel_rfl) (by kernel_rfl) (by kernel_rfl) (by kernel_rfl)
  have h26 := @run_callFunc_extern Tryd.prog 26 _ (ReflectliteValue.methodAny (ReflectliteValue.valueError "reflectlite.Value.Type" 0) (fun t _ _ _ => ReflectliteType.toType t)) Tryd.func26 (by kernel_rfl) (by kernel_rfl) (by kernel_rfl) (by kernel_rfl)
  have h27 := @run_callFunc_extern Tryd.prog 27 _ (ReflectliteValue.method (ReflectliteValue.valueError "reflectlite.Value.IsNil" 0) ReflectliteValue.isNil) Tryd.func27 (by kernel_rfl) (by kernel_rfl) (by kernel_rfl) (by kernel_rfl)
  have h52 := @run_callFunc_extern Tryd.prog 52 _ (ReflectliteType.abiMethod fun t => do pure (.int .u8 (← Rtype.kind t))) Tryd.func52 (by kernel_rfl) (by kernel_rfl) (by kernel_rfl) (by kernel_rfl)
  have h69 := @run_callFunc_extern Tryd.prog 69 _ (ReflectliteType.method ReflectliteType.elem) Tryd.func69 (by kernel_rfl) (by kernel_rfl) (by kernel_rfl) (by kernel_rfl)
  have h70 := @run_callFunc_extern Tryd.prog 70 _ (ReflectliteType.relation "Implements" ReflectliteType.implements_) Tryd.func70 (by kernel_rfl) (by kernel_rfl) (by kernel_rfl) (by kernel_rfl)
  have f6 := valueOf60
  have f7 := type60
  have mK := methodKind
  have mE := methodElem
  have mI := methodImplements
  have k1 := kind60
  have k2 := kind55
  have e1 := elem60
  have i1 := implements55
  obtain ⟨Wa, hWa⟩ : ∃ Wa, W.alloc (.cells #[.pointer (some t)] 60) = Wa := ⟨_, rfl⟩
  obtain ⟨Wb, hWb⟩ : ∃ Wb, Wa.alloc (.cells #[hd 60, .pointer (some ⟨W.heap.size, 0, none⟩), .int .u64 150] 67) = Wb := ⟨_, rfl⟩
  have hlt : 0 < W.heap.size := by
    rcases Nat.eq_zero_or_pos W.heap.size with h0 | h
    · simp [World.cell?, h0] at hg
    · exact h
  have htl : t.block < W.heap.size := by
    rcases Nat.lt_or_ge t.block W.heap.size with h | h
    · exact h
    · simp [World.cell?, Array.getElem?_eq_none h] at ht
  have hsa : Wa.heap.size = W.heap.size + 1 := by rw [← hWa]; simp
  have hBa : Below W.heap.size W Wa := by rw [← hWa]; exact (Below.refl _ W).alloc (Nat.le_refl _) _
  have hBb : Below W.heap.size W Wb := by rw [← hWb]; exact hBa.alloc (by omega) _
  have hca : Wb.cell? ⟨W.heap.size, 0, none⟩ = some (.pointer (some t)) := by
    rw [← hWb, World.cell?_alloc_lt _ _ ⟨W.heap.size, 0, none⟩ (by simp; omega), ← hWa, World.cell?_alloc_at _ _ _ _ (by simp)]; rfl
  have hgb : Wb.cell? ⟨0, 0, none⟩ = some (rt 26) := (World.cell?_of_block (hBb.block 0 hlt)).trans hg
  have htb : Wb.cell? t = some old := (World.cell?_of_block (hBb.block _ htl)).trans ht
  have hfb : Wb.frozen? t = false := by rw [← hWb, World.frozen?_alloc_old _ _ t (by omega), ← hWa, World.frozen?_alloc_old _ _ t (by omega)]; exact hf
  have hl1 : Wb.cell? ⟨W.heap.size + 1, 0, none⟩ = some (hd 60) := by rw [← hWb, ← hsa, World.cell?_alloc_at _ _ _ _ (by simp)]; rfl
  have hl2 : Wb.cell? ⟨W.heap.size + 1, 1, none⟩ = some (.pointer (some ⟨W.heap.size, 0, none⟩)) := by rw [← hWb, ← hsa, World.cell?_alloc_at _ _ _ _ (by simp)]; rfl
  have hl3 : Wb.cell? ⟨W.heap.size + 1, 2, none⟩ = some (.int .u64 150) := by rw [← hWb, ← hsa, World.cell?_alloc_at _ _ _ _ (by simp)]; rfl
  have n8 := isNil60 ⟨W.heap.size, 0, none⟩ t Wb hca
  have hrb : ErrRep S Wb e0 v0 := hr0.mono ⟨fun _ h => h, fun b hb => hBb.block b (hS b hb)⟩
  have hSb : ∀ b, S b → b < Wb.heap.size := fun b hb => Nat.lt_of_lt_of_le (hS b hb) hBb.size
  obtain ⟨tt, uu, rfl⟩ : ∃ tt uu, v0 = .iface tt uu := by
    rcases hr0.nilOr with ⟨_, h⟩ | ⟨h, _⟩
    · rw [hn0] at h; cases h
    · exact h
  go_enter Tryd.func21, Tryd.ntmps21
  go_wp2_with (go_at_call 28; refine (as28_inp ⟨W.heap.size, 0, none⟩ t old e0 _ Wb hrb hSb hn0 hca htb hfb).mono ?_; rintro e w' (⟨rfl, n, b, W1, hi, hb, hc1, hB, rfl⟩ | ⟨rfl, hi, hB⟩))
  · go_wp2
    go_ret
    exact .inl ⟨rfl, n, b, W1, hi, hb, (World.cell?_of_block (hBb.block _ (hS b hb))).symm.trans hc1, hBb.trans (hB.mono hBb.size), rfl⟩
  · go_wp2
    go_ret
    exact .inr ⟨rfl, hi, hBb.trans (hB.mono hBb.size)⟩

end Go.Proofs.YtllhidkadhoipaaDoor.Ab.Fh
