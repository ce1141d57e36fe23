/- fault.Text: whatever the error; by hand over the errors' own texts. -/
import Derived.Test.YtllhidkadhoipaaDoorFE
namespace Go.Proofs.YtllhidkadhoipaaDoor.Ab
open Go Go.RowKit Go.Proofs Go.Extern.Stop Go.Stop Go.Extern
set_option maxRecDepth 100000
set_option maxHeartbeats 8000000
set_option linter.unusedVariables false
set_option linter.unusedSimpArgs false

theorem ta48_48 (v : Value) (w : World) : (Instr.typeAssert (.iface 48 v) 26 48 true).run Tryd.prog w = .ok (.tuple #[v, .bool true]) w := by kernel_rfl
theorem ta48_52 (v : Value) (w : World) : (Instr.typeAssert (.iface 48 v) 26 52 true).run Tryd.prog w = .ok (.tuple #[.pointer none, .bool false]) w := by kernel_rfl
theorem ta48_55 (v : Value) (w : World) : (Instr.typeAssert (.iface 48 v) 26 55 true).run Tryd.prog w = .ok (.tuple #[.pointer none, .bool false]) w := by kernel_rfl
theorem ta52_48 (v : Value) (w : World) : (Instr.typeAssert (.iface 52 v) 26 48 true).run Tryd.prog w = .ok (.tuple #[.pointer none, .bool false]) w := by kernel_rfl
theorem ta52_52 (v : Value) (w : World) : (Instr.typeAssert (.iface 52 v) 26 52 true).run Tryd.prog w = .ok (.tuple #[v, .bool true]) w := by kernel_rfl
theorem ta52_55 (v : Value) (w : World) : (Instr.typeAssert (.iface 52 v) 26 55 true).run Tryd.prog w = .ok (.tuple #[.pointer none, .bool false]) w := by kernel_rfl
theorem ta55_48 (v : Value) (w : World) : (Instr.typeAssert (.iface 55 v) 26 48 true).run Tryd.prog w = .ok (.tuple #[.pointer none, .bool false]) w := by kernel_rfl
theorem ta55_52 (v : Value) (w : World) : (Instr.typeAssert (.iface 55 v) 26 52 true).run Tryd.prog w = .ok (.tuple #[.pointer none, .bool false]) w := by kernel_rfl
theorem ta55_55 (v : Value) (w : World) : (Instr.typeAssert (.iface 55 v) 26 55 true).run Tryd.prog w = .ok (.tuple #[v, .bool true]) w := by kernel_rfl
theorem taN_48 (w : World) : (Instr.typeAssert .nilIface 26 48 true).run Tryd.prog w = .ok (.tuple #[.pointer none, .bool false]) w := by kernel_rfl
theorem taN_52 (w : World) : (Instr.typeAssert .nilIface 26 52 true).run Tryd.prog w = .ok (.tuple #[.pointer none, .bool false]) w := by kernel_rfl
theorem taN_55 (w : World) : (Instr.typeAssert .nilIface 26 55 true).run Tryd.prog w = .ok (.tuple #[.pointer none, .bool false]) w := by kernel_rfl

/-- An error's text. -/
def F15 (n : Nat) : Er → Option (List UInt8)
  | .nil => some []
  | .prob c a => Ft.F55 n (some (c, (a, ())))
  | .wrap e s => Ft.F59 (fun _ => F15 n e) n (some (e, (s, ())))
  | .inp e k => Ft.F61 (fun _ => F15 n e) n (some (e, (k, ())))

theorem text_nil (W : World) : Calls Tryd.prog 15 #[.nilIface] W fun ev W' => ev = .returned (strV []) ∧ W' = W := by
  have h22 : Calls Tryd.prog 22 #[.nilIface] W fun ev W' => ev = .returned (strV []) ∧ W' = W := by
    have q1 := taN_48
    have q2 := taN_52
    have q3 := taN_55
    go_enter Tryd.func22, Tryd.ntmps22
    go_wp2
    go_ret
    exact ⟨rfl, rfl⟩
  go_enter Tryd.func15, Tryd.ntmps15
  go_wp2_with (go_at_call 22; refine h22.mono ?_; rintro e w' ⟨rfl, e1⟩; obtain rfl : W = w' := e1.symm)
  go_ret
  exact ⟨rfl, rfl⟩

theorem text_prob (b : Nat) (W : World) (r : List UInt8) (h : Calls Tryd.prog 55 #[.pointer (some ⟨b, 0, none⟩)] W fun ev W' => ev = .returned (strV r) ∧ Below W.heap.size W W') :
    Calls Tryd.prog 15 #[.iface 48 (.pointer (some ⟨b, 0, none⟩))] W fun ev W' => ev = .returned (strV r) ∧ Below W.heap.size W W' := by
  have m1 := Fh.error48
  have h22 : Calls Tryd.prog 22 #[.iface 48 (.pointer (some ⟨b, 0, none⟩))] W fun ev W' => ev = .returned (strV r) ∧ Below W.heap.size W W' := by
    have q1 := ta48_48
    have q2 := ta48_52
    have q3 := ta48_55
    go_enter Tryd.func22, Tryd.ntmps22
    go_wp2_with (go_at_call 55; refine h.mono ?_; rintro e w' ⟨rfl, hB⟩)
    go_ret
    exact ⟨rfl, hB⟩
  go_enter Tryd.func15, Tryd.ntmps15
  go_wp2_with (go_at_call 22; refine h22.mono ?_; rintro e w' ⟨rfl, hB⟩)
  go_ret
  exact ⟨rfl, hB⟩

theorem text_wrap (b : Nat) (W : World) (r : List UInt8) (h : Calls Tryd.prog 59 #[.pointer (some ⟨b, 0, none⟩)] W fun ev W' => ev = .returned (strV r) ∧ Below W.heap.size W W') :
    Calls Tryd.prog 15 #[.iface 52 (.pointer (some ⟨b, 0, none⟩))] W fun ev W' => ev = .returned (strV r) ∧ Below W.heap.size W W' := by
  have m1 := Fh.error52
  have h22 : Calls Tryd.prog 22 #[.iface 52 (.pointer (some ⟨b, 0, none⟩))] W fun ev W' => ev = .returned (strV r) ∧ Below W.heap.size W W' := by
    have q1 := ta52_48
    have q2 := ta52_52
    have q3 := ta52_55
    go_enter Tryd.func22, Tryd.ntmps22
    go_wp2_with (go_at_call 59; refine h.mono ?_; rintro e w' ⟨rfl, hB⟩)
    go_ret
    exact ⟨rfl, hB⟩
  go_enter Tryd.func15, Tryd.ntmps15
  go_wp2_with (go_at_call 22; refine h22.mono ?_; rintro e w' ⟨rfl, hB⟩)
  go_ret
  exact ⟨rfl, hB⟩

theorem text_inp (b : Nat) (W : World) (r : List UInt8) (h : Calls Tryd.prog 61 #[.pointer (some ⟨b, 0, none⟩)] W fun ev W' => ev = .returned (strV r) ∧ Below W.heap.size W W') :
    Calls Tryd.prog 15 #[.iface 55 (.pointer (some ⟨b, 0, none⟩))] W fun ev W' => ev = .returned (strV r) ∧ Below W.heap.size W W' := by
  have m1 := Fh.error55
  have h22 : Calls Tryd.prog 22 #[.iface 55 (.pointer (some ⟨b, 0, none⟩))] W fun ev W' => ev = .returned (strV r) ∧ Below W.heap.size W W' := by
    have q1 := ta55_48
    have q2 := ta55_52
    have q3 := ta55_55
    go_enter Tryd.func22, Tryd.ntmps22
    go_wp2_with (go_at_call 61; refine h.mono ?_; rintro e w' ⟨rfl, hB⟩)
    go_ret
    exact ⟨rfl, hB⟩
  go_enter Tryd.func15, Tryd.ntmps15
  go_wp2_with (go_at_call 22; refine h22.mono ?_; rintro e w' ⟨rfl, hB⟩)
  go_ret
  exact ⟨rfl, hB⟩

theorem ent15 : Enters Tryd.prog 15 := enters (by kernel_rfl : Tryd.prog.funcs[15]? = some Tryd.f15) (by kernel_rfl : Tryd.f15.body = some (Tryd.f15.body.getD .skip)) (by kernel_rfl)

theorem under_below {w w' : World} (h : Under w.heap.size (fun _ => False) w w') : Below w.heap.size w w' := ⟨h.os, h.tape, h.output, h.size, fun k hk => h.block k hk fun h => h⟩

/-- What a told function with a text for its result gives a walk. -/
theorem told_str {f : FuncId} {d : D} {r : List UInt8} (h : CallsAbs Tryd.prog f [d] (.val .str r)) {S : Nat → Prop} {w : World} {v : Value} (hbs : Base S w) (hS : ∀ b, S b → b < w.heap.size) (hv : SV S w d v) :
    Calls Tryd.prog f #[v] w fun ev W' => ev = .returned (strV r) ∧ Below w.heap.size w W' := by
  refine (h.2 S w [v] hbs hS (.cons hv .nil)).mono ?_
  rintro e W' ⟨v', S', rfl, hv', hu, _⟩
  rw [sv_str hv']
  exact ⟨rfl, under_below hu⟩

theorem ref2 {S : Nat → Prop} {w : World} {τ σ : Ty} {x : τ.I} {y : σ.I} {u1 u2 : Value} {b : Nat} (hb : S b) (h1 : w.cell? ⟨b, 0, none⟩ = some u1) (h2 : w.cell? ⟨b, 1, none⟩ = some u2) (r1 : RepC S w τ x [u1]) (r2 : RepC S w σ y [u2]) :
    SV S w (.val (.ref (.pair τ (.pair σ .unit))) (some (x, (y, ())))) (.pointer (some ⟨b, 0, none⟩)) := by
  refine ⟨[_], ⟨_, rfl, .inr ⟨⟨b, 0, none⟩, [u1, u2], (x, (y, ())), rfl, rfl, ⟨[u1], [u2], rfl, r1, [u2], [], rfl, r2, rfl⟩, fun j u hj => ?_⟩⟩, rfl, rfl⟩
  match j, hj with
  | 0, hj => simp at hj; subst hj; exact ⟨hb, by rw [show (⟨b, 0, none⟩ : Addr).add 0 = ⟨b, 0, none⟩ by simp [Addr.add]]; exact h1⟩
  | 1, hj => simp at hj; subst hj; exact ⟨hb, by rw [show (⟨b, 0, none⟩ : Addr).add 1 = ⟨b, 1, none⟩ by simp [Addr.add]]; exact h2⟩
  | j + 2, hj => simp at hj

open Classical in
theorem text_calls (n : Nat) : ∀ (e : Er) (r : List UInt8), F15 n e = some r → CallsAbs Tryd.prog 15 [.val .err e] (.val .str r)
  | .nil, r, h => by
    cases h
    refine ⟨ent15, fun S w vs hbs hS hvs => ?_⟩
    cases hvs with
    | cons h1 h2 =>
      cases h2
      have e1 : _ = Value.nilIface := sv_err h1
      subst e1
      refine (text_nil w).mono ?_
      rintro e W' ⟨rfl, rfl⟩
      exact ⟨_, S, rfl, ⟨[_], rfl, rfl, rfl⟩, Under.refl _ _ _, fun _ h => h, fun b hb => ⟨hS b hb, fun _ => hb⟩⟩
  | .prob c a, r, h => by
    have hT := Ft.T55 n (some (c, (a, ()))) r h
    refine ⟨ent15, fun S w vs hbs hS hvs => ?_⟩
    cases hvs with
    | cons h1 h2 =>
      cases h2
      obtain ⟨b, rfl, hb, hc0, hc1⟩ := Fh.er48 (sv_err h1)
      refine (text_prob b w r (told_str hT hbs hS (ref2 (τ := .int .i64) (σ := .int .i64) hb hc0 hc1 rfl rfl))).mono ?_
      rintro e W' ⟨rfl, hB⟩
      exact ⟨_, S, rfl, ⟨[_], rfl, rfl, rfl⟩, below_under hB, fun _ h => h, fun b hb => ⟨Nat.lt_of_lt_of_le (hS b hb) hB.size, fun _ => hb⟩⟩
  | .wrap e s, r, h => by
    have hf : Told Tryd.prog 15 [.err] [.str] (fun x => if x = e then F15 n e else none) := by
      rintro x r' h'
      by_cases hx : x = e
      · subst hx
        simp only [if_true] at h'
        exact text_calls n x r' h'
      · simp only [if_neg hx] at h'; cases h'
    have hT := Ft.T59 (fun x => if x = e then F15 n e else none) hf n (some (e, (s, ()))) r (by
      have h' : Ft.F59 (fun _ => F15 n e) n (some (e, (s, ()))) = some r := h
      unfold Ft.F59 at h' ⊢
      simpa using h')
    refine ⟨ent15, fun S w vs hbs hS hvs => ?_⟩
    cases hvs with
    | cons h1 h2 =>
      cases h2
      obtain ⟨hn, b, tt, uu, rfl, hb, hc0, hc1, hr⟩ := Fh.er52 (sv_err h1)
      refine (text_wrap b w r (told_str hT hbs hS (ref2 (τ := .err) (σ := .str) hb hc0 hc1 ⟨_, rfl, hr⟩ rfl))).mono ?_
      rintro e W' ⟨rfl, hB⟩
      exact ⟨_, S, rfl, ⟨[_], rfl, rfl, rfl⟩, below_under hB, fun _ h => h, fun b hb => ⟨Nat.lt_of_lt_of_le (hS b hb) hB.size, fun _ => hb⟩⟩
  | .inp e k, r, h => by
    have hf : Told Tryd.prog 15 [.err] [.str] (fun x => if x = e then F15 n e else none) := by
      rintro x r' h'
      by_cases hx : x = e
      · subst hx
        simp only [if_true] at h'
        exact text_calls n x r' h'
      · simp only [if_neg hx] at h'; cases h'
    have hT := Ft.T61 (fun x => if x = e then F15 n e else none) hf n (some (e, (k, ()))) r (by
      have h' : Ft.F61 (fun _ => F15 n e) n (some (e, (k, ()))) = some r := h
      unfold Ft.F61 at h' ⊢
      simpa using h')
    refine ⟨ent15, fun S w vs hbs hS hvs => ?_⟩
    cases hvs with
    | cons h1 h2 =>
      cases h2
      obtain ⟨hn, b, tt, uu, rfl, hb, hc0, hc1, hr⟩ := Fh.er55 (sv_err h1)
      refine (text_inp b w r (told_str hT hbs hS (ref2 (τ := .err) (σ := .int .i64) hb hc0 hc1 ⟨_, rfl, hr⟩ rfl))).mono ?_
      rintro e W' ⟨rfl, hB⟩
      exact ⟨_, S, rfl, ⟨[_], rfl, rfl, rfl⟩, below_under hB, fun _ h => h, fun b hb => ⟨Nat.lt_of_lt_of_le (hS b hb) hB.size, fun _ => hb⟩⟩

theorem T15 (n : Nat) : Told Tryd.prog 15 [.err] [.str] (fun x => F15 n x) := fun x r h => text_calls n x r h

end Go.Proofs.YtllhidkadhoipaaDoor.Ab
