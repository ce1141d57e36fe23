/- fault.Is and fault.Of, by hand. -/
import Derived.Test.YtllhidkadhoipaaDoorFH5
namespace Go.Proofs.YtllhidkadhoipaaDoor.Ab.Fh
open Go Go.RowKit Go.Proofs Go.Extern.Stop Go.Stop Go.Extern
set_option maxRecDepth 100000
set_option maxHeartbeats 8000000
set_option linter.unusedVariables false
set_option linter.unusedSimpArgs false

theorem is16_nil (c : Int) (W : World) : Calls Tryd.prog 16 #[.nilIface, .int .i64 c] W fun ev W' => ev = .returned (.bool false) ∧ Below W.heap.size W W' := by
  obtain ⟨W1, hW1⟩ : ∃ W1, W.alloc (.cells #[.pointer none] 48) = W1 := ⟨_, rfl⟩
  have hB1 : Below W.heap.size W W1 := by rw [← hW1]; exact (Below.refl _ W).alloc (Nat.le_refl _) _
  go_enter Tryd.func16, Tryd.ntmps16
  go_wp2_with (go_at_call 21; refine (as21_nil _ _).mono ?_; rintro e w' ⟨rfl, e1⟩; obtain rfl : W1 = w' := e1.symm)
  go_ret
  exact ⟨rfl, hB1⟩

theorem as21_probB {S : Nat → Prop} (k : Nat) (old : Value) (e0 : Er) (v0 : Value) (W : World) (hr0 : ErrRep S W e0 v0) (hS : ∀ b, S b → b < k) (hk : k < W.heap.size) (hn0 : e0.isNil = false)
    (hg : W.cell? ⟨0, 0, none⟩ = some (rt 26)) (ht : W.cell? ⟨k, 0, none⟩ = some old) (hf : W.frozen? ⟨k, 0, none⟩ = false) :
    Calls Tryd.prog 21 #[v0, .iface 59 (.pointer (some ⟨k, 0, none⟩))] W fun ev W' =>
      ev = .returned (.bool true) ∧ ∃ b, S b ∧ W'.cell? ⟨k, 0, none⟩ = some (.pointer (some ⟨b, 0, none⟩)) ∧ W'.cell? ⟨b, 0, none⟩ = some (.int .i64 (Er.inner e0).1) ∧ W'.cell? ⟨b, 1, none⟩ = some (.int .i64 (Er.inner e0).2) ∧ Below k W W' := by
  refine (as21_prob ⟨k, 0, none⟩ old e0 v0 W hr0 (fun b hb => Nat.lt_trans (hS b hb) hk) hn0 hg ht hf).mono ?_
  rintro ev W' ⟨rfl, b, W1, hb, hc0, hc1, hB, rfl⟩
  have hB2 : Below k W (W1.setCell ⟨k, 0, none⟩ (.pointer (some ⟨b, 0, none⟩))) := (hB.mono (Nat.le_of_lt hk)).setCell (p := ⟨k, 0, none⟩) (Nat.le_refl _) _
  have hx : W1.cell? ⟨k, 0, none⟩ = some old := (World.cell?_of_block (hB.block k hk)).trans ht
  exact ⟨rfl, b, hb, World.cell?_setCell_same' W1 ⟨k, 0, none⟩ _ (by rw [hx]; rfl), (World.cell?_of_block (hB2.block b (hS b hb))).trans hc0, (World.cell?_of_block (hB2.block b (hS b hb))).trans hc1, hB2⟩

theorem as21_inpB {S : Nat → Prop} (k : Nat) (e0 : Er) (v0 : Value) (W : World) (hr0 : ErrRep S W e0 v0) (hS : ∀ b, S b → b < k) (hk : k < W.heap.size) (hn0 : e0.isNil = false)
    (hg : W.cell? ⟨0, 0, none⟩ = some (rt 26)) (ht : W.cell? ⟨k, 0, none⟩ = some (.pointer none)) (hf : W.frozen? ⟨k, 0, none⟩ = false) :
    Calls Tryd.prog 21 #[v0, .iface 60 (.pointer (some ⟨k, 0, none⟩))] W fun ev W' =>
      (ev = .returned (.bool true) ∧ ∃ n b, Er.inputO e0 = some n ∧ S b ∧ W'.cell? ⟨k, 0, none⟩ = some (.pointer (some ⟨b, 0, none⟩)) ∧ W'.cell? ⟨b, 1, none⟩ = some (.int .i64 n) ∧ Below k W W') ∨
      (ev = .returned (.bool false) ∧ Er.inputO e0 = none ∧ Below k W W') := by
  refine (as21_inp ⟨k, 0, none⟩ _ e0 v0 W hr0 (fun b hb => Nat.lt_trans (hS b hb) hk) hn0 hg ht hf).mono ?_
  rintro ev W' (⟨rfl, n, b, W1, hi, hb, hc1, hB, rfl⟩ | ⟨rfl, hi, hB⟩)
  · have hB2 : Below k W (W1.setCell ⟨k, 0, none⟩ (.pointer (some ⟨b, 0, none⟩))) := (hB.mono (Nat.le_of_lt hk)).setCell (p := ⟨k, 0, none⟩) (Nat.le_refl _) _
    have hx : W1.cell? ⟨k, 0, none⟩ = some (.pointer none) := (World.cell?_of_block (hB.block k hk)).trans ht
    exact .inl ⟨rfl, n, b, hi, hb, World.cell?_setCell_same' W1 ⟨k, 0, none⟩ _ (by rw [hx]; rfl), (World.cell?_of_block (hB2.block b (hS b hb))).trans hc1, hB2⟩
  · exact .inr ⟨rfl, hi, hB.mono (Nat.le_of_lt hk)⟩

theorem is16_some {S : Nat → Prop} (e0 : Er) (v0 : Value) (c : Int) (W : World) (hr0 : ErrRep S W e0 v0) (hS : ∀ b, S b → b < W.heap.size) (hn0 : e0.isNil = false) (hg : W.cell? ⟨0, 0, none⟩ = some (rt 26)) :
    Calls Tryd.prog 16 #[v0, .int .i64 c] W fun ev W' => ev = .returned (.bool ((Er.inner e0).1 == c)) ∧ Below W.heap.size W W' := by
  obtain ⟨W1, hW1⟩ : ∃ W1, W.alloc (.cells #[.pointer none] 48) = W1 := ⟨_, rfl⟩
  have hs1 : W1.heap.size = W.heap.size + 1 := by rw [← hW1]; simp
  have hB1 : Below W.heap.size W W1 := by rw [← hW1]; exact (Below.refl _ W).alloc (Nat.le_refl _) _
  have hlt : 0 < W.heap.size := by
    rcases Nat.eq_zero_or_pos W.heap.size with h0 | h
    · simp [World.cell?, h0] at hg
    · exact h
  have hg1 : W1.cell? ⟨0, 0, none⟩ = some (rt 26) := (World.cell?_of_block (hB1.block 0 hlt)).trans hg
  have ht1 : W1.cell? ⟨W.heap.size, 0, none⟩ = some (.pointer none) := by rw [← hW1, World.cell?_alloc_at _ _ _ _ (by simp)]; rfl
  have hf1 : W1.frozen? ⟨W.heap.size, 0, none⟩ = false := by rw [← hW1]; simp
  have hr1 : ErrRep S W1 e0 v0 := hr0.mono ⟨fun _ h => h, fun b hb => hB1.block b (hS b hb)⟩
  go_enter Tryd.func16, Tryd.ntmps16
  go_wp2_with (first | (go_at_call 21; refine (as21_probB W.heap.size _ e0 v0 W1 hr1 hS (by omega) hn0 hg1 ht1 hf1).mono ?_; rintro e w' ⟨rfl, b, hb, hx, hc0, hc1, hB⟩) | (go_at_call 23; refine (is23 _ _ _ _ hc0).mono ?_; rintro e w'' ⟨rfl, rfl⟩))
  go_ret
  exact ⟨rfl, hB1.trans hB⟩

def errIs (e : Er) (c : Int) : Bool := bif e.isNil then false else ((Er.inner e).1 == c)
def errOf (e : Er) : Int × (Int × (Int × Unit)) := bif e.isNil then (0, 0, 0, ()) else ((Er.inner e).1, (Er.inner e).2, (Er.inputO e).getD 0, ())

theorem ent16 : Enters Tryd.prog 16 := enters (by kernel_rfl : Tryd.prog.funcs[16]? = some Tryd.f16) (by kernel_rfl : Tryd.f16.body = some (Tryd.f16.body.getD .skip)) (by kernel_rfl)
theorem ent14 : Enters Tryd.prog 14 := enters (by kernel_rfl : Tryd.prog.funcs[14]? = some Tryd.f14) (by kernel_rfl : Tryd.f14.body = some (Tryd.f14.body.getD .skip)) (by kernel_rfl)

theorem of14_nil (W : World) : Calls Tryd.prog 14 #[.nilIface] W fun ev W' => ev = .returned (.agg #[.int .i64 0, .int .i64 0, .int .i64 0]) ∧ Below W.heap.size W W' := by
  have hB : Below W.heap.size W (W.alloc (.cells #[.int .i64 0, .int .i64 0, .int .i64 0] 30)) := (Below.refl _ W).alloc (Nat.le_refl _) _
  go_enter Tryd.func14, Tryd.ntmps14
  go_wp2
  refine bodyPost_ret (v := .agg #[.int .i64 0, .int .i64 0, .int .i64 0]) ?_ rfl ⟨rfl, hB⟩
  have c0 : (W.alloc (.cells #[.int .i64 0, .int .i64 0, .int .i64 0] 30)).cell? ⟨W.heap.size, 0, none⟩ = some (.int .i64 0) := by rw [World.cell?_alloc_at _ _ _ _ (by simp)]; rfl
  have c1 : (W.alloc (.cells #[.int .i64 0, .int .i64 0, .int .i64 0] 30)).cell? ⟨W.heap.size, 1, none⟩ = some (.int .i64 0) := by rw [World.cell?_alloc_at _ _ _ _ (by simp)]; rfl
  have c2 : (W.alloc (.cells #[.int .i64 0, .int .i64 0, .int .i64 0] 30)).cell? ⟨W.heap.size, 2, none⟩ = some (.int .i64 0) := by rw [World.cell?_alloc_at _ _ _ _ (by simp)]; rfl
  simp [results, Tryd.f14, go_sem, c0, c1, c2]

theorem read3 (Z : World) (k : Nat) {x y z : Value} (a b c : Value) (h0 : Z.cell? ⟨k, 0, none⟩ = some x) (h1 : Z.cell? ⟨k, 1, none⟩ = some y) (h2 : Z.cell? ⟨k, 2, none⟩ = some z) :
    (((Z.setCell ⟨k, 0, none⟩ a).setCell ⟨k, 1, none⟩ b).setCell ⟨k, 2, none⟩ c).cell? ⟨k, 0, none⟩ = some a ∧ (((Z.setCell ⟨k, 0, none⟩ a).setCell ⟨k, 1, none⟩ b).setCell ⟨k, 2, none⟩ c).cell? ⟨k, 1, none⟩ = some b ∧
      (((Z.setCell ⟨k, 0, none⟩ a).setCell ⟨k, 1, none⟩ b).setCell ⟨k, 2, none⟩ c).cell? ⟨k, 2, none⟩ = some c := by
  have n1 : (⟨k, 0, none⟩ : Addr) ≠ ⟨k, 1, none⟩ := by simp
  have n2 : (⟨k, 0, none⟩ : Addr) ≠ ⟨k, 2, none⟩ := by simp
  have n3 : (⟨k, 1, none⟩ : Addr) ≠ ⟨k, 2, none⟩ := by simp
  refine ⟨?_, ?_, ?_⟩
  · rw [World.cell?_setCell_other _ _ _ _ (Ne.symm n2), World.cell?_setCell_other _ _ _ _ (Ne.symm n1)]
    exact World.cell?_setCell_same' Z _ _ (by rw [h0]; rfl)
  · rw [World.cell?_setCell_other _ _ _ _ (Ne.symm n3)]
    exact World.cell?_setCell_same' _ _ _ (by rw [World.cell?_setCell_other _ _ _ _ n1, h1]; rfl)
  · exact World.cell?_setCell_same' _ _ _ (by rw [World.cell?_setCell_other _ _ _ _ n3, World.cell?_setCell_other _ _ _ _ n2, h2]; rfl)

theorem of14_some {S : Nat → Prop} (e0 : Er) (v0 : Value) (W : World) (hr0 : ErrRep S W e0 v0) (hS : ∀ b, S b → b < W.heap.size) (hn0 : e0.isNil = false) (hg : W.cell? ⟨0, 0, none⟩ = some (rt 26)) :
    Calls Tryd.prog 14 #[v0] W fun ev W' => ev = .returned (.agg #[.int .i64 (Er.inner e0).1, .int .i64 (Er.inner e0).2, .int .i64 ((Er.inputO e0).getD 0)]) ∧ Below W.heap.size W W' := by
  obtain ⟨Wr, hWr⟩ : ∃ Wr, W.alloc (.cells #[.int .i64 0, .int .i64 0, .int .i64 0] 30) = Wr := ⟨_, rfl⟩
  obtain ⟨Wp, hWp⟩ : ∃ Wp, Wr.alloc (.cells #[.pointer none] 48) = Wp := ⟨_, rfl⟩
  have hsr : Wr.heap.size = W.heap.size + 1 := by rw [← hWr]; simp
  have hsp : Wp.heap.size = W.heap.size + 2 := by rw [← hWp]; simp [hsr]
  have hBr : Below W.heap.size W Wr := by rw [← hWr]; exact (Below.refl _ W).alloc (Nat.le_refl _) _
  have hBp : Below (W.heap.size + 1) Wr Wp := by rw [← hWp]; exact (Below.refl _ Wr).alloc (by omega) _
  have hBwp : Below W.heap.size W Wp := hBr.trans (hBp.mono (by omega))
  have hlt : 0 < W.heap.size := by
    rcases Nat.eq_zero_or_pos W.heap.size with h0 | h
    · simp [World.cell?, h0] at hg
    · exact h
  have hg1 : Wp.cell? ⟨0, 0, none⟩ = some (rt 26) := (World.cell?_of_block (hBwp.block 0 hlt)).trans hg
  have ht1 : Wp.cell? ⟨W.heap.size + 1, 0, none⟩ = some (.pointer none) := by rw [← hWp, ← hsr, World.cell?_alloc_at _ _ _ _ (by simp)]; rfl
  have hf1 : Wp.frozen? ⟨W.heap.size + 1, 0, none⟩ = false := by rw [← hWp, ← hsr]; simp
  have hr1 : ErrRep S Wp e0 v0 := hr0.mono ⟨fun _ h => h, fun b hb => hBwp.block b (hS b hb)⟩
  obtain ⟨tt, uu, rfl⟩ : ∃ tt uu, v0 = .iface tt uu := by
    rcases hr0.nilOr with ⟨_, h⟩ | ⟨h, _⟩
    · rw [hn0] at h; cases h
    · exact h
  go_enter Tryd.func14, Tryd.ntmps14
  go_wp2_with (go_at_call 21; refine (as21_probB (W.heap.size + 1) _ e0 _ Wp hr1 (fun b hb => Nat.lt_succ_of_lt (hS b hb)) (by omega) hn0 hg1 ht1 hf1).mono ?_; rintro e w' ⟨rfl, b, hb, hx, hc0, hc1, hB⟩)
  have hsw : W.heap.size + 2 ≤ w'.heap.size := by have := hB.size; omega
  have hbl := hS b hb
  have hx2 : (w'.alloc (.cells #[.int .i64 0, .int .i64 0, .int .i64 0] 30)).cell? ⟨W.heap.size + 1, 0, none⟩ = some (.pointer (some ⟨b, 0, none⟩)) := by rw [World.cell?_alloc_lt _ _ ⟨W.heap.size + 1, 0, none⟩ (by simp; omega)]; exact hx
  have hc2 : (w'.alloc (.cells #[.int .i64 0, .int .i64 0, .int .i64 0] 30)).cell? ⟨b, 0, none⟩ = some (.int .i64 (Er.inner e0).1) := by rw [World.cell?_alloc_lt _ _ ⟨b, 0, none⟩ (by simp; omega)]; exact hc0
  have hc3 : (w'.alloc (.cells #[.int .i64 0, .int .i64 0, .int .i64 0] 30)).cell? ⟨b, 1, none⟩ = some (.int .i64 (Er.inner e0).2) := by rw [World.cell?_alloc_lt _ _ ⟨b, 1, none⟩ (by simp; omega)]; exact hc1
  go_region
  obtain ⟨X, hX⟩ : ∃ X, (w'.alloc (.cells #[.int .i64 (Er.inner e0).1, .int .i64 (Er.inner e0).2, .int .i64 0] 30)).drew = X := ⟨_, rfl⟩
  obtain ⟨Y, hY⟩ : ∃ Y, X.alloc (.cells #[.pointer none] 55) = Y := ⟨_, rfl⟩
  rw [hX]
  have sX : X.heap.size = w'.heap.size + 1 := by rw [← hX]; simp
  have sY : Y.heap.size = w'.heap.size + 2 := by rw [← hY]; simp [sX]
  have bX : Below w'.heap.size w' X := by rw [← hX]; exact ((Below.refl _ w').alloc (Nat.le_refl _) _).drew
  have bY : Below (w'.heap.size + 1) X Y := by rw [← hY]; exact (Below.refl _ X).alloc (by omega) _
  have bRY : Below (W.heap.size + 1) Wr Y := (hBp.trans hB).trans ((bX.mono (by omega)).trans (bY.mono (by omega)))
  have bWY : Below W.heap.size W Y := hBr.trans (bRY.mono (by omega))
  have gY : Y.cell? ⟨0, 0, none⟩ = some (rt 26) := (World.cell?_of_block (bWY.block 0 hlt)).trans hg
  have tY : Y.cell? ⟨w'.heap.size + 1, 0, none⟩ = some (.pointer none) := by rw [← hY, ← sX, World.cell?_alloc_at _ _ _ _ (by simp)]; rfl
  have fY : Y.frozen? ⟨w'.heap.size + 1, 0, none⟩ = false := by rw [← hY, ← sX]; simp
  have rY : ErrRep S Y e0 (.iface tt uu) := hr0.mono ⟨fun _ h => h, fun b hb => bWY.block b (hS b hb)⟩
  have x0 : X.cell? ⟨w'.heap.size, 0, none⟩ = some (.int .i64 (Er.inner e0).1) := by rw [← hX, World.cell?_drew, World.cell?_alloc_at _ _ _ _ (by simp)]; rfl
  have x1 : X.cell? ⟨w'.heap.size, 1, none⟩ = some (.int .i64 (Er.inner e0).2) := by rw [← hX, World.cell?_drew, World.cell?_alloc_at _ _ _ _ (by simp)]; rfl
  have x2 : X.cell? ⟨w'.heap.size, 2, none⟩ = some (.int .i64 0) := by rw [← hX, World.cell?_drew, World.cell?_alloc_at _ _ _ _ (by simp)]; rfl
  have xf : ∀ i, X.frozen? ⟨w'.heap.size, i, none⟩ = false := by intro i; rw [← hX, World.frozen?_drew]; simp
  have r0 : Wr.cell? ⟨W.heap.size, 0, none⟩ = some (.int .i64 0) := by rw [← hWr, World.cell?_alloc_at _ _ _ _ (by simp)]; rfl
  have r1 : Wr.cell? ⟨W.heap.size, 1, none⟩ = some (.int .i64 0) := by rw [← hWr, World.cell?_alloc_at _ _ _ _ (by simp)]; rfl
  have r2 : Wr.cell? ⟨W.heap.size, 2, none⟩ = some (.int .i64 0) := by rw [← hWr, World.cell?_alloc_at _ _ _ _ (by simp)]; rfl
  have rf' : ∀ i, Wr.frozen? ⟨W.heap.size, i, none⟩ = false := by intro i; rw [← hWr]; simp
  have hk1 : w'.heap.size + 1 < Y.heap.size := by omega
  have hSk : ∀ b, S b → b < w'.heap.size + 1 := fun b hb => by have := hS b hb; omega
  have facts : ∀ z, Below (w'.heap.size + 1) Y z → z.cell? ⟨w'.heap.size, 0, none⟩ = some (.int .i64 (Er.inner e0).1) ∧ z.cell? ⟨w'.heap.size, 1, none⟩ = some (.int .i64 (Er.inner e0).2) ∧ z.cell? ⟨w'.heap.size, 2, none⟩ = some (.int .i64 0) ∧ z.frozen? ⟨w'.heap.size, 2, none⟩ = false ∧
      z.cell? ⟨W.heap.size, 0, none⟩ = some (.int .i64 0) ∧ z.cell? ⟨W.heap.size, 1, none⟩ = some (.int .i64 0) ∧ z.cell? ⟨W.heap.size, 2, none⟩ = some (.int .i64 0) ∧ z.frozen? ⟨W.heap.size, 0, none⟩ = false ∧ z.frozen? ⟨W.heap.size, 1, none⟩ = false ∧ z.frozen? ⟨W.heap.size, 2, none⟩ = false ∧ Below W.heap.size W z := by
    intro z hBz
    have bz : Below (w'.heap.size + 1) X z := bY.trans hBz
    have bR : Below (W.heap.size + 1) Wr z := bRY.trans (hBz.mono (by omega))
    have bW : Below W.heap.size W z := hBr.trans (bR.mono (by omega))
    exact ⟨(World.cell?_of_block (bz.block _ (by simp))).trans x0, (World.cell?_of_block (bz.block _ (by simp))).trans x1, (World.cell?_of_block (bz.block _ (by simp))).trans x2, (bz.frozen (p := ⟨w'.heap.size, 2, none⟩) (by simp)).trans (xf 2),
      (World.cell?_of_block (bR.block _ (by simp))).trans r0, (World.cell?_of_block (bR.block _ (by simp))).trans r1, (World.cell?_of_block (bR.block _ (by simp))).trans r2, (bR.frozen (p := ⟨W.heap.size, 0, none⟩) (by simp)).trans (rf' 0), (bR.frozen (p := ⟨W.heap.size, 1, none⟩) (by simp)).trans (rf' 1), (bR.frozen (p := ⟨W.heap.size, 2, none⟩) (by simp)).trans (rf' 2), bW⟩
  have hne : w'.heap.size ≠ W.heap.size := by omega
  have call2 : Calls Tryd.prog 21 #[.iface tt uu, .iface 60 (.pointer (some ⟨w'.heap.size + 1, 0, none⟩))] Y fun ev z =>
      (ev = .returned (.bool true) ∧ ∃ n b', Er.inputO e0 = some n ∧ z.cell? ⟨w'.heap.size + 1, 0, none⟩ = some (.pointer (some ⟨b', 0, none⟩)) ∧ z.cell? ⟨b', 1, none⟩ = some (.int .i64 n) ∧ Below (w'.heap.size + 1) Y z) ∨
      (ev = .returned (.bool false) ∧ Er.inputO e0 = none ∧ Below (w'.heap.size + 1) Y z) := by
    refine (as21_inpB (w'.heap.size + 1) e0 _ Y rY (fun b hb => by have := hS b hb; omega) (by omega) hn0 gY tY fY).mono ?_
    rintro ev z (⟨rfl, n, b', hi, hb', hz, hz1, hBz⟩ | ⟨rfl, hi, hBz⟩)
    · exact .inl ⟨rfl, n, b', hi, hz, hz1, hBz⟩
    · exact .inr ⟨rfl, hi, hBz⟩
  rcases hio : Er.inputO e0 with _ | n0
  · have call3 := call2.mono (R' := fun ev z => ev = .returned (.bool false) ∧ Below (w'.heap.size + 1) Y z) (by
      rintro ev z (⟨rfl, n, b', hi, _⟩ | ⟨rfl, _, h⟩)
      · rw [hio] at hi; cases hi
      · exact ⟨rfl, h⟩)
    go_wp2_with (go_at_call 21; refine call3.mono ?_; rintro e z ⟨rfl, hBz⟩; obtain ⟨z0, z1, z2, zf2, y0, y1, y2, yf0, yf1, yf2, bW⟩ := facts z hBz)
    obtain ⟨q0, q1, q2⟩ := read3 z W.heap.size (.int .i64 (Er.inner e0).1) (.int .i64 (Er.inner e0).2) (.int .i64 0) y0 y1 y2
    refine bodyPost_ret (v := .agg #[.int .i64 (Er.inner e0).1, .int .i64 (Er.inner e0).2, .int .i64 0]) ?_ rfl ⟨by rw [hio]; rfl, ((bW.setCell (p := ⟨W.heap.size, 0, none⟩) (Nat.le_refl _) _).setCell (p := ⟨W.heap.size, 1, none⟩) (Nat.le_refl _) _).setCell (p := ⟨W.heap.size, 2, none⟩) (Nat.le_refl _) _⟩
    simp [results, Tryd.f14, go_sem, q0, q1, q2]
  · have call3 := call2.mono (R' := fun ev z => ev = .returned (.bool true) ∧ ∃ b', z.cell? ⟨w'.heap.size + 1, 0, none⟩ = some (.pointer (some ⟨b', 0, none⟩)) ∧ z.cell? ⟨b', 1, none⟩ = some (.int .i64 n0) ∧ Below (w'.heap.size + 1) Y z) (by
      rintro ev z (⟨rfl, n, b', hi, h1, h2, h3⟩ | ⟨rfl, hi, h⟩)
      · rw [hio] at hi; cases hi; exact ⟨rfl, b', h1, h2, h3⟩
      · rw [hio] at hi; cases hi)
    go_wp2_with (go_at_call 21; refine call3.mono ?_; rintro e z ⟨rfl, b', hz, hz1, hBz⟩; obtain ⟨z0, z1, z2, zf2, y0, y1, y2, yf0, yf1, yf2, bW⟩ := facts z hBz)
    have o0 : ∀ i, (z.setCell ⟨w'.heap.size, 2, none⟩ (.int .i64 n0)).cell? ⟨W.heap.size, i, none⟩ = z.cell? ⟨W.heap.size, i, none⟩ := fun i => World.cell?_setCell_other _ _ _ _ (fun h => hne (congrArg Addr.block h))
    obtain ⟨q0, q1, q2⟩ := read3 (z.setCell ⟨w'.heap.size, 2, none⟩ (.int .i64 n0)) W.heap.size (.int .i64 (Er.inner e0).1) (.int .i64 (Er.inner e0).2) (.int .i64 n0) ((o0 0).trans y0) ((o0 1).trans y1) ((o0 2).trans y2)
    refine bodyPost_ret (v := .agg #[.int .i64 (Er.inner e0).1, .int .i64 (Er.inner e0).2, .int .i64 n0]) ?_ rfl ⟨by rw [hio]; rfl, (((bW.setCell (p := ⟨w'.heap.size, 2, none⟩) (by simp; omega) _).setCell (p := ⟨W.heap.size, 0, none⟩) (Nat.le_refl _) _).setCell (p := ⟨W.heap.size, 1, none⟩) (Nat.le_refl _) _).setCell (p := ⟨W.heap.size, 2, none⟩) (Nat.le_refl _) _⟩
    simp [results, Tryd.f14, go_sem, q0, q1, q2]

def F16 (n : Nat) (e : Er) (c : Int) : Option Bool := some (errIs e c)
def F14 (n : Nat) (e : Er) : Option (Int × (Int × (Int × Unit))) := some (errOf e)

theorem T16 (n : Nat) : Told Tryd.prog 16 [.err, .int .i64] [.bool] (fun x => F16 n x.1 x.2) := by
  rintro ⟨e0, c⟩ r h
  cases h
  refine ⟨ent16, fun S w vs hbs hS hvs => ?_⟩
  cases hvs with
  | cons h1 h2 =>
    cases h2 with
    | cons h2 h3 =>
      cases h3
      have e1 := sv_err h1
      have e2 := sv_int h2
      subst e2
      have fin : ∀ (b : Bool) W', Below w.heap.size w W' → ∃ v S', Ending.returned (.bool b) = .returned v ∧ SV S' W' (.val .bool b) v ∧ Under w.heap.size (fun _ => False) w W' ∧ (∀ b, S b → S' b) ∧ (∀ b, S' b → b < W'.heap.size ∧ (b < w.heap.size → S b)) :=
        fun b W' hB => ⟨_, S, rfl, ⟨[_], rfl, rfl, rfl⟩, below_under hB, fun _ h => h, fun b hb => ⟨Nat.lt_of_lt_of_le (hS b hb) hB.size, fun _ => hb⟩⟩
      cases hn : e0.isNil
      · refine (is16_some e0 _ c w e1 hS hn hbs.2.1).mono ?_
        rintro e W' ⟨rfl, hB⟩
        simp only [errIs, hn, cond_false]
        exact fin _ _ hB
      · rcases e1.nilOr with ⟨rfl, _⟩ | ⟨_, h⟩
        · refine (is16_nil c w).mono ?_
          rintro e W' ⟨rfl, hB⟩
          simp only [errIs, hn, cond_true]
          exact fin _ _ hB
        · rw [hn] at h; cases h

theorem T14 (n : Nat) : Told Tryd.prog 14 [.err] [.pair (.int .i64) (.pair (.int .i64) (.pair (.int .i64) .unit))] (fun x => F14 n x) := by
  rintro e0 r h
  cases h
  refine ⟨ent14, fun S w vs hbs hS hvs => ?_⟩
  cases hvs with
  | cons h1 h2 =>
    cases h2
    have e1 := sv_err h1
    have fin : ∀ (a b c : Int) W', Below w.heap.size w W' → ∃ v S', Ending.returned (.agg #[.int .i64 a, .int .i64 b, .int .i64 c]) = .returned v ∧ SV S' W' (.val (.pair (.int .i64) (.pair (.int .i64) (.pair (.int .i64) .unit))) (a, b, c, ())) v ∧ Under w.heap.size (fun _ => False) w W' ∧ (∀ b, S b → S' b) ∧ (∀ b, S' b → b < W'.heap.size ∧ (b < w.heap.size → S b)) :=
      fun a b c W' hB => ⟨_, S, rfl, ⟨[.int .i64 a, .int .i64 b, .int .i64 c], ⟨[.int .i64 a], [.int .i64 b, .int .i64 c], rfl, rfl, [.int .i64 b], [.int .i64 c], rfl, rfl, [.int .i64 c], [], rfl, rfl, rfl⟩, rfl⟩, below_under hB, fun _ h => h, fun b hb => ⟨Nat.lt_of_lt_of_le (hS b hb) hB.size, fun _ => hb⟩⟩
    cases hn : e0.isNil
    · refine (of14_some e0 _ w e1 hS hn hbs.2.1).mono ?_
      rintro e W' ⟨rfl, hB⟩
      have : errOf e0 = ((Er.inner e0).1, (Er.inner e0).2, (Er.inputO e0).getD 0, ()) := by unfold errOf; rw [hn]; rfl
      rw [this]
      exact fin _ _ _ _ hB
    · rcases e1.nilOr with ⟨rfl, _⟩ | ⟨_, h⟩
      · refine (of14_nil w).mono ?_
        rintro e W' ⟨rfl, hB⟩
        have : errOf e0 = (0, 0, 0, ()) := by unfold errOf; rw [hn]; rfl
        rw [this]
        exact fin _ _ _ _ hB
      · rw [hn] at h; cases h

end Go.Proofs.YtllhidkadhoipaaDoor.Ab.Fh
