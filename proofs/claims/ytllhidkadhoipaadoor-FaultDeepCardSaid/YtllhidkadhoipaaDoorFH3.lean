/- errors.As at the two targets that fault.Of and fault.Is have, by hand. -/
import Derived.Test.YtllhidkadhoipaaDoorFH2
import Derived.Deep.LoopGhost
namespace Go.Proofs.YtllhidkadhoipaaDoor.Ab.Fh
open Go Go.RowKit Go.Proofs Go.Extern.Stop Go.Stop Go.Extern
set_option maxRecDepth 100000
set_option maxHeartbeats 8000000
set_option linter.unusedVariables false
set_option linter.unusedSimpArgs false

theorem unwrap56 (b : Nat) (c : Int) (W : World) (h : W.cell? ⟨b, 0, none⟩ = some (.int .i64 c)) : Calls Tryd.prog 56 #[.pointer (some ⟨b, 0, none⟩)] W fun e w' => e = .returned (.iface 49 (.int .i64 c)) ∧ w' = W := by
  go_enter Tryd.func56, Tryd.ntmps56
  go_wp2
  go_ret
  exact ⟨rfl, rfl⟩
theorem unwrap60 (b : Nat) (u : Value) (W : World) (h : W.cell? ⟨b, 0, none⟩ = some u) : Calls Tryd.prog 60 #[.pointer (some ⟨b, 0, none⟩)] W fun e w' => e = .returned u ∧ w' = W := by
  go_enter Tryd.func60, Tryd.ntmps60
  go_wp2
  go_ret
  exact ⟨rfl, rfl⟩
theorem unwrap62 (b : Nat) (u : Value) (W : World) (h : W.cell? ⟨b, 0, none⟩ = some u) : Calls Tryd.prog 62 #[.pointer (some ⟨b, 0, none⟩)] W fun e w' => e = .returned u ∧ w' = W := by
  go_enter Tryd.func62, Tryd.ntmps62
  go_wp2
  go_ret
  exact ⟨rfl, rfl⟩

def Er.size : Er → Nat
  | .nil => 0
  | .prob _ _ => 1
  | .wrap e _ => Er.size e + 1
  | .inp e _ => Er.size e + 1

/-- The code, and the place. -/
def Er.inner : Er → Int × Int
  | .nil => (0, 0)
  | .prob c a => (c, a)
  | .wrap e _ => Er.inner e
  | .inp e _ => Er.inner e

theorem er48 {S : Nat → Prop} {w : World} {c a : Int} {v : Value} (h : ErrRep S w (.prob c a) v) : ∃ b, v = .iface 48 (.pointer (some ⟨b, 0, none⟩)) ∧ S b ∧ w.cell? ⟨b, 0, none⟩ = some (.int .i64 c) ∧ w.cell? ⟨b, 1, none⟩ = some (.int .i64 a) := h
theorem er52 {S : Nat → Prop} {w : World} {e : Er} {s : List UInt8} {v : Value} (h : ErrRep S w (.wrap e s) v) : e.isNil = false ∧ ∃ b tt uu, v = .iface 52 (.pointer (some ⟨b, 0, none⟩)) ∧ S b ∧ w.cell? ⟨b, 0, none⟩ = some (.iface tt uu) ∧ w.cell? ⟨b, 1, none⟩ = some (strV s) ∧ ErrRep S w e (.iface tt uu) := by
  obtain ⟨hn, b, u, h1, h2, h3, h4, h5⟩ := h
  obtain ⟨tt, uu, rfl⟩ : ∃ tt uu, u = .iface tt uu := by
    rcases h5.nilOr with ⟨_, h⟩ | ⟨h, _⟩
    · rw [hn] at h; cases h
    · exact h
  exact ⟨hn, b, tt, uu, h1, h2, h3, h4, h5⟩
theorem er55 {S : Nat → Prop} {w : World} {e : Er} {n : Int} {v : Value} (h : ErrRep S w (.inp e n) v) : e.isNil = false ∧ ∃ b tt uu, v = .iface 55 (.pointer (some ⟨b, 0, none⟩)) ∧ S b ∧ w.cell? ⟨b, 0, none⟩ = some (.iface tt uu) ∧ w.cell? ⟨b, 1, none⟩ = some (.int .i64 n) ∧ ErrRep S w e (.iface tt uu) := by
  obtain ⟨hn, b, u, h1, h2, h3, h4, h5⟩ := h
  obtain ⟨tt, uu, rfl⟩ : ∃ tt uu, u = .iface tt uu := by
    rcases h5.nilOr with ⟨_, h⟩ | ⟨h, _⟩
    · rw [hn] at h; cases h
    · exact h
  exact ⟨hn, b, tt, uu, h1, h2, h3, h4, h5⟩

theorem as28_prob {S : Nat → Prop} (a t : Addr) (old : Value) (e0 : Er) (v0 : Value) (W : World) (hr0 : ErrRep S W e0 v0) (hS : ∀ b, S b → b < W.heap.size) (hn0 : e0.isNil = false)
    (ha : W.cell? a = some (.pointer (some t))) (ht : W.cell? t = some old) (hf : W.frozen? t = false) :
    Calls Tryd.prog 28 #[v0, .iface 59 (.pointer (some t)), .agg #[hd 59, .pointer (some a), .int .u64 150], rt 48] W fun ev W' =>
      ev = .returned (.bool true) ∧ ∃ b W1, S b ∧ W.cell? ⟨b, 0, none⟩ = some (.int .i64 (Er.inner e0).1) ∧ W.cell? ⟨b, 1, none⟩ = some (.int .i64 (Er.inner e0).2) ∧ Below W.heap.size W W1 ∧ W' = W1.setCell t (.pointer (some ⟨b, 0, none⟩)) := by
  have h25 := @run_callFunc_extern Tryd.prog 25 _ (fun args => ReflectliteValue.unpack (args.getD 0 (.tuple #[]))) Tryd.func25 (by kernel_rfl) (by kernel_rfl) (by kernel_rfl) (by kernel_rfl)
  have h29 := @run_callFunc_extern Tryd.prog 29 _ ReflectliteType.typeOf Tryd.func29 (by kernel_rfl) (by kernel_rfl) (by kernel_rfl) (by kernel_rfl)
  have h67 := @run_callFunc_extern Tryd.prog 67 _ (ReflectliteType.relation "AssignableTo" ReflectliteType.assignableTo) Tryd.func67 (by kernel_rfl) (by kernel_rfl) (by kernel_rfl) (by kernel_rfl)
  have h33 := @run_callFunc_extern Tryd.prog 33 _ (ReflectliteValue.method (ReflectliteValue.valueError "reflectlite.Value.Elem" 0) ReflectliteValue.elem) Tryd.func33 (by kernel_rfl) (by kernel_rfl) (by kernel_rfl) (by kernel_rfl)
  have h34 := @run_callFunc_extern Tryd.prog 34 _ ReflectliteValue.set Tryd.func34 (by kernel_rfl) (by kernel_rfl) (by kernel_rfl) (by kernel_rfl)
  have mA := methodAssignableTo
  have t48 := typeOf48
  have t52 := typeOf52
  have t55 := typeOf55
  have a1 := as4848
  have a2 := as5248
  have a3 := as5548
  have n1 := noAs52
  have n2 := noAs55
  have u1 := un52
  have u2 := un55
  have w1 := unwrap52
  have w2 := unwrap55
  have v48 := valueOf48
  obtain ⟨W1, hW1⟩ : ∃ W1, W.alloc (.cells #[hd 59, .pointer (some a), .int .u64 150] 67) = W1 := ⟨_, rfl⟩
  have hB1 : Below W.heap.size W W1 := by rw [← hW1]; exact (Below.refl _ W).alloc (Nat.le_refl _) _
  have hal : a.block < W.heap.size := by
    rcases Nat.lt_or_ge a.block W.heap.size with h | h
    · exact h
    · simp [World.cell?, Array.getElem?_eq_none h] at ha
  have htl : t.block < W.heap.size := by
    rcases Nat.lt_or_ge t.block W.heap.size with h | h
    · exact h
    · simp [World.cell?, Array.getElem?_eq_none h] at ht
  have hr1 : ErrRep S W1 e0 v0 := hr0.mono ⟨fun _ h => h, fun b hb => hB1.block b (hS b hb)⟩
  have ha1 : W1.cell? a = some (.pointer (some t)) := (World.cell?_of_block (hB1.block _ hal)).trans ha
  have ht1 : W1.cell? t = some old := (World.cell?_of_block (hB1.block _ htl)).trans ht
  have hf1 : W1.frozen? t = false := by rw [← hW1, World.frozen?_alloc_old _ _ t (Nat.ne_of_lt htl)]; exact hf
  have el := elemV59 a t W1 ha1
  have hl1 : W1.cell? ⟨W.heap.size, 0, none⟩ = some (hd 59) := by rw [← hW1, World.cell?_alloc_at _ _ _ _ (by simp)]; rfl
  have hl2 : W1.cell? ⟨W.heap.size, 1, none⟩ = some (.pointer (some a)) := by rw [← hW1, World.cell?_alloc_at _ _ _ _ (by simp)]; rfl
  have hl3 : W1.cell? ⟨W.heap.size, 2, none⟩ = some (.int .u64 150) := by rw [← hW1, World.cell?_alloc_at _ _ _ _ (by simp)]; rfl
  go_enter Tryd.func28, Tryd.ntmps28
  go_wp2
  go_loopg [0] (Er.size e0) (fun g s0 wx => W1 = wx ∧ ∃ e, g = Er.size e ∧ e.isNil = false ∧ ErrRep S W1 e s0 ∧ Er.inner e = Er.inner e0)
  case atStart => exact ⟨rfl, e0, rfl, hn0, hr1, rfl⟩
  case round =>
    obtain ⟨rfl, e, rfl, hn, hr, hi⟩ := hrel
    cases e with
    | nil => cases hn
    | prob c a0 =>
      obtain ⟨b, rfl, hb, hc0, hc1⟩ := er48 hr
      have hsz : W1.heap.size = W.heap.size + 1 := by rw [← hW1]; simp
      have st := set48 t ⟨W1.heap.size, 0, none⟩ ⟨b, 0, none⟩ old (W1.alloc (.cells #[.pointer (some ⟨b, 0, none⟩)] 48)) (by rw [World.cell?_alloc_at _ _ _ _ (by simp)]; rfl)
        (by rw [World.cell?_alloc_lt _ _ t (by omega)]; exact ht1) (by rw [World.frozen?_alloc_old _ _ t (by omega)]; exact hf1)
      rw [hsz] at st
      go_wp2
      go_ret
      have hi1 := congrArg Prod.fst hi
      have hi2 := congrArg Prod.snd hi
      refine ⟨rfl, b, _, hb, ?_, ?_, hB1.trans ((Below.refl _ W1).alloc (by omega) _), rfl⟩
      · rw [← hi1]; exact (World.cell?_of_block (hB1.block _ (hS b hb))).symm.trans hc0
      · rw [← hi2]; exact (World.cell?_of_block (hB1.block _ (hS b hb))).symm.trans hc1
    | wrap e s =>
      obtain ⟨hn', b, tt, uu, rfl, hb, hc0, hc1, hr'⟩ := er52 hr
      go_wp2_with (go_at_call 60; refine (unwrap60 b _ _ hc0).mono ?_; rintro e w' ⟨rfl, e1⟩; obtain rfl : W1 = w' := e1.symm)
      go_roundg (Er.size e)
      case rel => exact ⟨rfl, e, rfl, hn', hr', hi⟩
      case measure => simp [Er.size]
    | inp e n =>
      obtain ⟨hn', b, tt, uu, rfl, hb, hc0, hc1, hr'⟩ := er55 hr
      go_wp2_with (go_at_call 62; refine (unwrap62 b _ _ hc0).mono ?_; rintro e w' ⟨rfl, e1⟩; obtain rfl : W1 = w' := e1.symm)
      go_roundg (Er.size e)
      case rel => exact ⟨rfl, e, rfl, hn', hr', hi⟩
      case measure => simp [Er.size]

end Go.Proofs.YtllhidkadhoipaaDoor.Ab.Fh
