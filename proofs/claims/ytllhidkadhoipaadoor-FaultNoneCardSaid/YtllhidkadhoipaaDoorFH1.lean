/- What the errors' makers do: New, Wrap, Input; by hand. -/
import Derived.Test.YtllhidkadhoipaaDoorC24
import Derived.Test.YtllhidkadhoipaaDoorChecked
import Derived.LaidEql
import Derived.Stop.Asserts
import Derived.RowKitTokens
namespace Go.Proofs.YtllhidkadhoipaaDoor.Ab
open Go Go.RowKit Go.Proofs
set_option maxRecDepth 100000
set_option maxHeartbeats 2000000
set_option linter.unusedVariables false
set_option linter.unusedSimpArgs false

theorem below_under {w w' : World} (h : Below w.heap.size w w') : Under w.heap.size (fun _ => False) w w' := ⟨h.os, h.tape, h.output, h.size, fun k hk _ => h.block k hk⟩

theorem sv_int {S : Nat → Prop} {w : World} {k : IntKind} {x : Int} {v : Value} (h : SV S w (.val (.int k) x) v) : v = .int k x := DV_int h
theorem sv_str {S : Nat → Prop} {w : World} {x : List UInt8} {v : Value} (h : SV S w (.val .str x) v) : v = strV x := DV_str h
theorem sv_err {S : Nat → Prop} {w : World} {e : Er} {v : Value} (h : SV S w (.val .err e) v) : ErrRep S w e v := by
  obtain ⟨cs, ⟨u, rfl, hr⟩, hw⟩ := h
  obtain ⟨hw1, _⟩ : [u] = [v] ∧ _ := hw
  cases hw1
  exact hr
theorem err_sv {S : Nat → Prop} {w : World} {e : Er} {v : Value} (h : ErrRep S w e v) : SV S w (.val .err e) v := ⟨[v], ⟨v, rfl, h⟩, rfl, h.plain⟩

/-- What a maker leaves: one block more, or none. -/
theorem made_ok {S : Nat → Prop} {w w' : World} {e : Er} {v : Value} (hS : ∀ b, S b → b < w.heap.size) (hB : Below w.heap.size w w') (hr : ErrRep (fun b => S b ∨ (w.heap.size ≤ b ∧ b < w'.heap.size)) w' e v) :
    ∃ v' S', Ending.returned v = .returned v' ∧ SV S' w' (.val .err e) v' ∧ Under w.heap.size (fun _ => False) w w' ∧ (∀ b, S b → S' b) ∧ (∀ b, S' b → b < w'.heap.size ∧ (b < w.heap.size → S b)) :=
  ⟨v, _, rfl, err_sv hr, below_under hB, fun b hb => .inl hb, fun b hb => ⟨by rcases hb with hb | hb; exact Nat.lt_of_lt_of_le (hS b hb) hB.size; exact hb.2, fun hlt => by rcases hb with hb | hb; exact hb; omega⟩⟩

theorem kept_wider {S : Nat → Prop} {w w' : World} (hS : ∀ b, S b → b < w.heap.size) (hB : Below w.heap.size w w') : Keep S w (fun b => S b ∨ (w.heap.size ≤ b ∧ b < w'.heap.size)) w' :=
  ⟨fun b hb => .inl hb, fun b hb => hB.block b (hS b hb)⟩

theorem Er.isNil_iff {e : Er} : e.isNil = true ↔ e = .nil := by cases e <;> simp [Er.isNil]

/-! ### New -/

def errNew (c a : Int) : Er := bif c == 0 then .nil else .prob c a
def errWrap (e : Er) (s : List UInt8) : Er := bif e.isNil then .nil else .wrap e s
def errInput (e : Er) (n : Int) : Er := bif e.isNil then .nil else .inp e n

theorem new_nil (a : Int) (w : World) : Calls Tryd.prog 8 #[.int .i64 0, .int .i64 a] w fun e w' => e = .returned .nilIface ∧ w' = w := by
  go_enter Tryd.func8, Tryd.ntmps8
  go_wp2
  go_ret
  exact ⟨rfl, rfl⟩

theorem new_some (c a : Int) (w : World) (hc : ¬ c = 0) : Calls Tryd.prog 8 #[.int .i64 c, .int .i64 a] w fun e w' => e = .returned (.iface 48 (.pointer (some ⟨w.heap.size, 0, none⟩))) ∧ w' = w.alloc (.cells #[.int .i64 c, .int .i64 a] 51) := by
  go_enter Tryd.func8, Tryd.ntmps8
  go_wp2
  go_ret
  exact ⟨rfl, rfl⟩

theorem wrap_nil (s : List UInt8) (w : World) : Calls Tryd.prog 10 #[.nilIface, strV s] w fun e w' => e = .returned .nilIface ∧ w' = w := by
  go_enter Tryd.func10, Tryd.ntmps10
  go_wp2
  go_ret
  exact ⟨rfl, rfl⟩

theorem wrap_some (t : TypeId) (u : Value) (s : List UInt8) (w : World) : Calls Tryd.prog 10 #[.iface t u, strV s] w fun e w' => e = .returned (.iface 52 (.pointer (some ⟨w.heap.size, 0, none⟩))) ∧ w' = w.alloc (.cells #[.iface t u, strV s] 54) := by
  go_enter Tryd.func10, Tryd.ntmps10
  go_wp2
  go_ret
  exact ⟨rfl, rfl⟩

theorem input_nil (n : Int) (w : World) : Calls Tryd.prog 12 #[.nilIface, .int .i64 n] w fun e w' => e = .returned .nilIface ∧ w' = w := by
  go_enter Tryd.func12, Tryd.ntmps12
  go_wp2
  go_ret
  exact ⟨rfl, rfl⟩

theorem input_some (t : TypeId) (u : Value) (n : Int) (w : World) : Calls Tryd.prog 12 #[.iface t u, .int .i64 n] w fun e w' => e = .returned (.iface 55 (.pointer (some ⟨w.heap.size, 0, none⟩))) ∧ w' = w.alloc (.cells #[.iface t u, .int .i64 n] 57) := by
  go_enter Tryd.func12, Tryd.ntmps12
  go_wp2
  go_ret
  exact ⟨rfl, rfl⟩

theorem ent8 : Enters Tryd.prog 8 := enters (by kernel_rfl : Tryd.prog.funcs[8]? = some Tryd.f8) (by kernel_rfl : Tryd.f8.body = some (Tryd.f8.body.getD .skip)) (by kernel_rfl)
theorem ent10 : Enters Tryd.prog 10 := enters (by kernel_rfl : Tryd.prog.funcs[10]? = some Tryd.f10) (by kernel_rfl : Tryd.f10.body = some (Tryd.f10.body.getD .skip)) (by kernel_rfl)
theorem ent12 : Enters Tryd.prog 12 := enters (by kernel_rfl : Tryd.prog.funcs[12]? = some Tryd.f12) (by kernel_rfl : Tryd.f12.body = some (Tryd.f12.body.getD .skip)) (by kernel_rfl)

theorem cell_new0 (w : World) (a b : Value) (t : TypeId) : (w.alloc (.cells #[a, b] t)).cell? ⟨w.heap.size, 0, none⟩ = some a := by rw [World.cell?_alloc_at _ _ _ _ (by simp)]; rfl
theorem cell_new1 (w : World) (a b : Value) (t : TypeId) : (w.alloc (.cells #[a, b] t)).cell? ⟨w.heap.size, 1, none⟩ = some b := by rw [World.cell?_alloc_at _ _ _ _ (by simp)]; rfl

def F8 (n : Nat) (c a : Int) : Option Er := some (errNew c a)
def F10 (n : Nat) (e : Er) (s : List UInt8) : Option Er := some (errWrap e s)
def F12 (n : Nat) (e : Er) (k : Int) : Option Er := some (errInput e k)

theorem T8 (n : Nat) : Told Tryd.prog 8 [.int .i64, .int .i64] [.err] (fun x => F8 n x.1 x.2) := by
  rintro ⟨c, a⟩ r h
  cases h
  refine ⟨ent8, fun S w vs hbs hS hvs => ?_⟩
  cases hvs with
  | cons h1 h2 =>
    cases h2 with
    | cons h2 h3 =>
      cases h3
      have e1 := sv_int h1
      have e2 := sv_int h2
      subst e1 e2
      by_cases hc : c = 0
      · subst hc
        refine (new_nil a w).mono ?_
        rintro e W' ⟨rfl, rfl⟩
        exact made_ok hS (Below.refl _ _) rfl
      · refine (new_some c a w hc).mono ?_
        rintro e W' ⟨rfl, rfl⟩
        have he : errNew c a = .prob c a := by unfold errNew; rw [show (c == 0) = false by simp [hc]]; rfl
        refine made_ok hS ((Below.refl _ w).alloc (Nat.le_refl _) _) ?_
        rw [he]
        exact ⟨w.heap.size, rfl, .inr ⟨Nat.le_refl _, by simp⟩, cell_new0 _ _ _ _, cell_new1 _ _ _ _⟩

theorem T10 (n : Nat) : Told Tryd.prog 10 [.err, .str] [.err] (fun x => F10 n x.1 x.2) := by
  rintro ⟨e0, s⟩ r h
  cases h
  refine ⟨ent10, fun S w vs hbs hS hvs => ?_⟩
  cases hvs with
  | cons h1 h2 =>
    cases h2 with
    | cons h2 h3 =>
      cases h3
      have e1 := sv_err h1
      have e2 := sv_str h2
      subst e2
      rcases e1.nilOr with ⟨rfl, hn⟩ | ⟨⟨t, u, rfl⟩, hn⟩
      · refine (wrap_nil s w).mono ?_
        rintro e W' ⟨rfl, rfl⟩
        refine made_ok hS (Below.refl _ _) ?_
        simp only [errWrap, hn, cond_true]
        rfl
      · refine (wrap_some t u s w).mono ?_
        rintro e W' ⟨rfl, rfl⟩
        have hB : Below w.heap.size w (w.alloc (.cells #[.iface t u, strV s] 54)) := (Below.refl _ w).alloc (Nat.le_refl _) _
        refine made_ok hS hB ?_
        simp only [errWrap, hn, cond_false]
        exact ⟨hn, w.heap.size, _, rfl, .inr ⟨Nat.le_refl _, by simp⟩, cell_new0 _ _ _ _, cell_new1 _ _ _ _, e1.mono (kept_wider hS hB)⟩

theorem T12 (n : Nat) : Told Tryd.prog 12 [.err, .int .i64] [.err] (fun x => F12 n x.1 x.2) := by
  rintro ⟨e0, k⟩ r h
  cases h
  refine ⟨ent12, fun S w vs hbs hS hvs => ?_⟩
  cases hvs with
  | cons h1 h2 =>
    cases h2 with
    | cons h2 h3 =>
      cases h3
      have e1 := sv_err h1
      have e2 := sv_int h2
      subst e2
      rcases e1.nilOr with ⟨rfl, hn⟩ | ⟨⟨t, u, rfl⟩, hn⟩
      · refine (input_nil k w).mono ?_
        rintro e W' ⟨rfl, rfl⟩
        refine made_ok hS (Below.refl _ _) ?_
        simp only [errInput, hn, cond_true]
        rfl
      · refine (input_some t u k w).mono ?_
        rintro e W' ⟨rfl, rfl⟩
        have hB : Below w.heap.size w (w.alloc (.cells #[.iface t u, .int .i64 k] 57)) := (Below.refl _ w).alloc (Nat.le_refl _) _
        refine made_ok hS hB ?_
        simp only [errInput, hn, cond_false]
        exact ⟨hn, w.heap.size, _, rfl, .inr ⟨Nat.le_refl _, by simp⟩, cell_new0 _ _ _ _, cell_new1 _ _ _ _, e1.mono (kept_wider hS hB)⟩

end Go.Proofs.YtllhidkadhoipaaDoor.Ab
