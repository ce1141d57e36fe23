/- The kids of a node: a loop over a function of the program's own; by hand. -/
import Derived.Test.YtaeamjhgfhcjdaaDoorGA
import Derived.RangeFuncBox
import Derived.RangeFuncLeaves
import Derived.RangeFuncCalls
import Derived.RangeFuncBound
import Derived.RangeFuncNested
import Derived.Shelf.Abstract
import Derived.Shelf.RegionOpen
import Derived.WalkKit
import Derived.OwnWalkIn
import Derived.TacticsInMore
import Derived.LoopNIn
import Derived.LoopIn
import Derived.Maps.AppendAt
namespace Go.Proofs.YtaeamjhgfhcjdaaDoor.Ab
open Go Go.RowKit Go.Proofs Go.Shelf
attribute [local go_sem] Oper.semAt_some
set_option maxRecDepth 100000
set_option maxHeartbeats 2000000
set_option linter.unusedVariables false
set_option linter.unusedSimpArgs false

theorem at_in (F : Fence) (n : Nat) (h : F.fn 52) (hro : F.round = none) (A : Addr) (B : Addr) (len cap : Nat) (i : Int) (w : World) (hA : w.cell? A = some (.slice (some B) len cap)) (h0 : 0 ≤ i) (h1 : i < len) (_ : len ≤ cap) :
    CallsIn F n Tryd.prog 52 #[.pointer (some A), .int .i64 i] w fun e w' => e = .returned (.pointer (some (B.add (i.toNat * 9)))) ∧ w' = w := by
  refine callsIn_of_wp Tryd.func52 rfl h ?_ hro
  simp only [Tryd.ntmps52, List.size_toArray, List.length_cons, List.length_nil, Nat.reduceAdd, Nat.reduceSub, Array.replicate_succ, Array.replicate_zero, List.push_toArray, List.append_toArray, List.nil_append, List.cons_append]
  gi_wp2
  go_ret
  exact ⟨rfl, rfl⟩

theorem at_neg (F : Fence) (n : Nat) (h : F.fn 52) (hro : F.round = none) (A : Option Addr) (i : Int) (w : World) (h0 : i < 0) :
    CallsIn F n Tryd.prog 52 #[.pointer A, .int .i64 i] w fun e w' => e = .returned (.pointer none) ∧ w' = w := by
  refine callsIn_of_wp Tryd.func52 rfl h ?_ hro
  simp only [Tryd.ntmps52, List.size_toArray, List.length_cons, List.length_nil, Nat.reduceAdd, Nat.reduceSub, Array.replicate_succ, Array.replicate_zero, List.push_toArray, List.append_toArray, List.nil_append, List.cons_append]
  gi_wp2
  go_ret
  exact ⟨rfl, rfl⟩

theorem at_out (F : Fence) (n : Nat) (h : F.fn 52) (hro : F.round = none) (A : Addr) (B : Option Addr) (len cap : Nat) (i : Int) (w : World) (hA : w.cell? A = some (.slice B len cap)) (h1 : (len : Int) ≤ i) :
    CallsIn F n Tryd.prog 52 #[.pointer (some A), .int .i64 i] w fun e w' => e = .returned (.pointer none) ∧ w' = w := by
  refine callsIn_of_wp Tryd.func52 rfl h ?_ hro
  simp only [Tryd.ntmps52, List.size_toArray, List.length_cons, List.length_nil, Nat.reduceAdd, Nat.reduceSub, Array.replicate_succ, Array.replicate_zero, List.push_toArray, List.append_toArray, List.nil_append, List.cons_append]
  gi_wp2
  all_goals go_ret
  all_goals exact ⟨rfl, rfl⟩

/-- The maker of the loop's function. -/
theorem kids_in (F : Fence) (n : Nat) (h : F.fn 62) (hro : F.round = none) (A : Option Addr) (i : Int) (w : World) :
    CallsIn F n Tryd.prog 62 #[.pointer A, .int .i64 i] w fun e w' => e = .returned (.func (.func 77) #[] #[.pointer (some ⟨w.heap.size, 0, none⟩), .pointer (some ⟨w.heap.size + 1, 0, none⟩)]) ∧ w' = (w.alloc (.cells #[.pointer A] 46)).alloc (.cells #[.int .i64 i] 3) := by
  refine callsIn_of_wp Tryd.func62 rfl h ?_ hro
  simp only [Tryd.ntmps62, List.size_toArray, List.length_cons, List.length_nil, Nat.reduceAdd, Nat.reduceSub, Array.replicate_succ, Array.replicate_zero, List.push_toArray, List.append_toArray, List.nil_append, List.cons_append]
  gi_wp2
  go_ret
  exact ⟨by simp, rfl⟩

abbrev NodeT : Ty := .pair (.pair (.int .i64) (.pair .bool (.pair (.int .i64) (.pair .str (.pair .str (.pair (.int .i64) (.pair (.int .i64) .unit))))))) (.pair (.int .i64) (.pair (.int .i64) .unit))
abbrev NodeI := (Int × Bool × Int × List UInt8 × List UInt8 × Int × Int × Unit) × Int × Int × Unit
def NodeI.first (x : NodeI) : Int := x.1.2.2.2.2.2.1
def NodeI.next (x : NodeI) : Int := x.1.2.2.2.2.2.2.1
def NodeI.name (x : NodeI) : List UInt8 := x.1.2.2.2.2.1
def NodeI.kind (x : NodeI) : Int := x.1.1

/-- The kids, one behind the other. -/
def KRun (nodes : List NodeI) : Int → List Int → Prop
  | p, [] => p = -1
  | p, k :: ks => k = p ∧ 0 ≤ p ∧ p < (nodes.length : Int) ∧ KRun nodes ((nodes.getD p.toNat (Ty.dflt NodeT)).next) ks

theorem KRun.unique {nodes : List NodeI} : ∀ {p : Int} {ks ls : List Int}, KRun nodes p ks → KRun nodes p ls → ks = ls
  | _, [], [], _, _ => rfl
  | _, [], _ :: _, h, ⟨_, h0, _⟩ => by have : _ = (-1 : Int) := h; omega
  | _, _ :: _, [], ⟨_, h0, _⟩, h => by have : _ = (-1 : Int) := h; omega
  | _, _ :: _, _ :: _, ⟨e, _, _, h⟩, ⟨e', _, _, h'⟩ => by rw [e, e', KRun.unique h h']

open Classical in
/-- How many are still to come. -/
noncomputable def KLeft (nodes : List NodeI) (v : Value) : Nat :=
  if h : ∃ r : Int × List Int, v = .int .i64 r.1 ∧ KRun nodes r.1 r.2 then (Classical.choose h).2.length else 0

theorem left_eq {nodes : List NodeI} {q : Int} {xs : List Int} (h : KRun nodes q xs) : KLeft nodes (.int .i64 q) = xs.length := by
  have hex : ∃ r : Int × List Int, Value.int .i64 q = .int .i64 r.1 ∧ KRun nodes r.1 r.2 := ⟨(q, xs), rfl, h⟩
  unfold KLeft
  rw [dif_pos hex]
  obtain ⟨e, hl⟩ := Classical.choose_spec hex
  have e' : q = (Classical.choose hex).1 := by simpa using e
  rw [← e'] at hl
  rw [KRun.unique hl h]

/-- What a round keeps: all below n₁ but the block h. -/
def KpX (n₁ h : Nat) (W W' : World) : Prop := W.heap.size ≤ W'.heap.size ∧ ∀ b, b < n₁ → b ≠ h → W'.heap[b]? = W.heap[b]?

theorem KpX.trans {n₁ h : Nat} {A B C : World} (x : KpX n₁ h A B) (y : KpX n₁ h B C) : KpX n₁ h A C := ⟨Nat.le_trans x.1 y.1, fun b h1 h2 => (y.2 b h1 h2).trans (x.2 b h1 h2)⟩
theorem KpX.put {n₁ h : Nat} {w : World} (hn : n₁ ≤ w.heap.size) (W : World) (l : Nat) (o o' : Obj) (hl : w.heap.size ≤ l) (_ : W.heap[l]? = some o) (_ : o.isCells = false) (_ : o.isWalk = false) : KpX n₁ h W (W.putObj l o') := by
  have hg := grownBy_putObj' W l o'
  refine ⟨hg.size, fun b h1 _ => ?_⟩
  by_cases hb : b < W.heap.size
  · exact hg.block b hb (fun e => by cases e; omega)
  · have e1 : W.heap[b]? = none := by simp; omega
    have e2 : (W.putObj l o').heap[b]? = none := by simp [World.putObj]; omega
    rw [e1, e2]
theorem KpX.cell {n₁ h : Nat} {W W' : World} (x : KpX n₁ h W W') {a : Addr} (h1 : a.block < n₁) (h2 : a.block ≠ h) : W'.cell? a = W.cell? a := World.cell?_of_block (x.2 _ h1 h2)

/-- Where the nodes lie. -/
structure KMem (n₁ h : Nat) (W : World) (A B : Addr) (cap : Nat) (nodes : List NodeI) : Prop where
  cA : W.cell? A = some (.slice (some B) nodes.length cap)
  le : nodes.length ≤ cap
  bA : A.block < n₁ ∧ A.block ≠ h
  bB : nodes ≠ [] → B.block < n₁ ∧ B.block ≠ h
  kind : ∀ (p : Nat) (x : NodeI), nodes[p]? = some x → W.cell? (B.add (p * 9)) = some (.int .i64 x.kind)
  name : ∀ (p : Nat) (x : NodeI), nodes[p]? = some x → W.cell? ((B.add (p * 9)).add 4) = some (strV x.name)
  first : ∀ (p : Nat) (x : NodeI), nodes[p]? = some x → W.cell? ((B.add (p * 9)).add 5) = some (.int .i64 x.first)
  next : ∀ (p : Nat) (x : NodeI), nodes[p]? = some x → W.cell? ((B.add (p * 9)).add 6) = some (.int .i64 x.next)

theorem KMem.kept {n₁ h : Nat} {W W' : World} {A B : Addr} {cap : Nat} {nodes : List NodeI} (m : KMem n₁ h W A B cap nodes) (k : KpX n₁ h W W') : KMem n₁ h W' A B cap nodes := by
  have c : ∀ {p : Nat} {x : NodeI} {a : Addr} {v : Value}, nodes[p]? = some x → a.block = B.block → W.cell? a = some v → W'.cell? a = some v := by
    intro p x a v hp ha hv
    have hb := m.bB (fun e => by rw [e] at hp; simp at hp)
    rw [k.cell (by rw [ha]; exact hb.1) (by rw [ha]; exact hb.2)]
    exact hv
  exact ⟨(k.cell m.bA.1 m.bA.2).trans m.cA, m.le, m.bA, m.bB, fun p x hp => c hp (by rw [add_block]) (m.kind p x hp), fun p x hp => c hp (by rw [add_block, add_block]) (m.name p x hp), fun p x hp => c hp (by rw [add_block, add_block]) (m.first p x hp), fun p x hp => c hp (by rw [add_block, add_block]) (m.next p x hp)⟩

theorem it_in (F : Fence) (n : Nat) (h32 : F.fn 77) (h24 : F.fn 52) (hro : F.round = none) (hn : 1 ≤ n) (l h n₁ Bn Bi : Nat) (A B : Addr) (cap : Nat) (nodes : List NodeI) (i : Int) (ks : List Int) (J Jx : List Int → World → Prop)
    (hY : ∀ pre x W, 0 ≤ x → x < (nodes.length : Int) → J pre W → pre.length < ks.length → YieldAt F (n - 1) Tryd.prog l #[.int .i64 x, .pointer (some (B.add (x.toNat * 9)))] W fun e W' =>
      (e = .returned (.bool true) ∧ J (pre ++ [x]) W' ∧ KpX n₁ h W W') ∨ (e = .returned (.bool false) ∧ Jx (pre ++ [x]) W'))
    (W : World) (hBn : W.cell? ⟨Bn, 0, none⟩ = some (.pointer (some A))) (hBi : W.cell? ⟨Bi, 0, none⟩ = some (.int .i64 i)) (hbn : Bn < n₁ ∧ Bn ≠ h) (hM : KMem n₁ h W A B cap nodes)
    (hi0 : 0 ≤ i) (hi1 : i < (nodes.length : Int)) (hR : KRun nodes ((nodes.getD i.toNat (Ty.dflt NodeT)).first) ks) (h0 : J [] W) :
    CallsIn F n Tryd.prog 77 #[.func (.yield l) #[] #[], .pointer (some ⟨Bn, 0, none⟩), .pointer (some ⟨Bi, 0, none⟩)] W fun e W' => (∃ v, e = .returned v) ∧
      ((∃ ys, ys = ks ∧ J ys W') ∨ (∃ pre, pre <+: ks ∧ Jx pre W')) := by
  refine callsIn_of_wp Tryd.func77 rfl h32 ?_ hro
  simp only [Tryd.ntmps77, List.size_toArray, List.length_cons, List.length_nil, Nat.reduceAdd, Nat.reduceSub, Array.replicate_succ, Array.replicate_zero, List.push_toArray, List.append_toArray, List.nil_append, List.cons_append]
  have hlt : i.toNat < nodes.length := by omega
  have hget : nodes[i.toNat]? = some (nodes.getD i.toNat (Ty.dflt NodeT)) := by rw [List.getD_eq_getElem?_getD, List.getElem?_eq_getElem hlt]; rfl
  obtain ⟨f0, hf0⟩ : ∃ f0, (nodes.getD i.toNat (Ty.dflt NodeT)).first = f0 := ⟨_, rfl⟩
  have hf : W.cell? { block := (B.add (i.toNat * 9)).block, off := (B.add (i.toNat * 9)).off + 5 } = some (.int .i64 f0) := hf0 ▸ hM.first _ _ hget
  rw [hf0] at hR
  have hA := hM.cA
  gi_wp2_with (gi_at_call 52; refine (at_in F _ h24 hro A B _ _ _ _ hA hi0 hi1 hM.le).mono ?_; rintro e w' ⟨rfl, rfl⟩)
  gi_loopw [5] (fun p wr => ∃ (pre rest : List Int) (q : Int), p = .int .i64 q ∧ ks = pre ++ rest ∧ KRun nodes q rest ∧ KMem n₁ h wr A B cap nodes ∧ wr.cell? ⟨Bn, 0, none⟩ = some (.pointer (some A)) ∧ J pre wr)
    (fun p wr => KLeft nodes p)
  case atStart =>
    exact ⟨[], ks, _, rfl, rfl, hR, hM, hBn, h0⟩
  case round =>
    obtain ⟨pre, rest, q, rfl, hx, hl, hM2, hBn2, hJs⟩ := hrel
    cases rest with
    | nil =>
      obtain rfl : q = -1 := hl
      gi_wp2
      go_end0
      exact ⟨⟨_, rfl⟩, .inl ⟨pre, by simp [hx], hJs⟩⟩
    | cons x rest =>
      have hl' := hl
      obtain ⟨rfl, hx0, hx1, hr⟩ := hl
      obtain ⟨fn, tmps, assign, body, hy, hR2⟩ := hY pre x wr hx0 hx1 hJs (by rw [hx]; simp)
      have hA2 := hM2.cA
      have hne : x ≠ -1 := by omega
      have hlt2 : x.toNat < nodes.length := by omega
      have hget2 : nodes[x.toNat]? = some (nodes.getD x.toNat (Ty.dflt NodeT)) := by rw [List.getD_eq_getElem?_getD, List.getElem?_eq_getElem hlt2]; rfl
      obtain ⟨nx, hnx⟩ : ∃ nx, (nodes.getD x.toNat (Ty.dflt NodeT)).next = nx := ⟨_, rfl⟩
      rw [hnx] at hr
      gi_wp2_with (gi_at_call 52; refine (at_in F _ h24 hro A B _ _ _ _ hA2 hx0 hx1 hM2.le).mono ?_; rintro e w' ⟨rfl, rfl⟩)
      refine hR2.mono ?_
      rintro e W3 (⟨rfl, hJ3, hk3⟩ | ⟨rfl, hJx3⟩)
      · have hM3 := hM2.kept hk3
        have hf3 : W3.cell? { block := (B.add (x.toNat * 9)).block, off := (B.add (x.toNat * 9)).off + 6 } = some (.int .i64 nx) := hnx ▸ hM3.next _ _ hget2
        have hBn3 := (hk3.cell (a := ⟨Bn, 0, none⟩) hbn.1 hbn.2).trans hBn2
        gi_wp2
        go_roundw
        case rel => exact ⟨pre ++ [x], rest, _, rfl, by simp [hx], hr, hM3, hBn3, hJ3⟩
        case measure => rw [left_eq hr, left_eq hl']; simp
      · gi_wp2
        refine bodyPost_ret (results_none rfl _ _ _) rfl ?_
        exact ⟨⟨_, rfl⟩, .inr ⟨pre ++ [x], ⟨rest, by simp [hx]⟩, hJx3⟩⟩
theorem it_neg (F : Fence) (n : Nat) (h32 : F.fn 77) (h24 : F.fn 52) (hro : F.round = none) (hn : 1 ≤ n) (l Bn Bi : Nat) (A : Option Addr) (i : Int) (W : World) (hBn : W.cell? ⟨Bn, 0, none⟩ = some (.pointer A)) (hBi : W.cell? ⟨Bi, 0, none⟩ = some (.int .i64 i)) (hi : i < 0) :
    CallsIn F n Tryd.prog 77 #[.func (.yield l) #[] #[], .pointer (some ⟨Bn, 0, none⟩), .pointer (some ⟨Bi, 0, none⟩)] W fun e W' => (∃ v, e = .returned v) ∧ W' = W := by
  refine callsIn_of_wp Tryd.func77 rfl h32 ?_ hro
  simp only [Tryd.ntmps77, List.size_toArray, List.length_cons, List.length_nil, Nat.reduceAdd, Nat.reduceSub, Array.replicate_succ, Array.replicate_zero, List.push_toArray, List.append_toArray, List.nil_append, List.cons_append]
  gi_wp2_with (gi_at_call 52; refine (at_neg F _ h24 hro A i _ hi).mono ?_; rintro e w' ⟨rfl, rfl⟩)
  refine bodyPost_ret (results_none rfl _ _ _) rfl ?_
  exact ⟨⟨_, rfl⟩, rfl⟩

theorem it_out (F : Fence) (n : Nat) (h32 : F.fn 77) (h24 : F.fn 52) (hro : F.round = none) (hn : 1 ≤ n) (l Bn Bi : Nat) (A : Addr) (B : Option Addr) (len cap : Nat) (i : Int) (W : World) (hBn : W.cell? ⟨Bn, 0, none⟩ = some (.pointer (some A))) (hBi : W.cell? ⟨Bi, 0, none⟩ = some (.int .i64 i))
    (hA : W.cell? A = some (.slice B len cap)) (hi : (len : Int) ≤ i) :
    CallsIn F n Tryd.prog 77 #[.func (.yield l) #[] #[], .pointer (some ⟨Bn, 0, none⟩), .pointer (some ⟨Bi, 0, none⟩)] W fun e W' => (∃ v, e = .returned v) ∧ W' = W := by
  refine callsIn_of_wp Tryd.func77 rfl h32 ?_ hro
  simp only [Tryd.ntmps77, List.size_toArray, List.length_cons, List.length_nil, Nat.reduceAdd, Nat.reduceSub, Array.replicate_succ, Array.replicate_zero, List.push_toArray, List.append_toArray, List.nil_append, List.cons_append]
  gi_wp2_with (gi_at_call 52; refine (at_out F _ h24 hro A B len cap i _ hA hi).mono ?_; rintro e w' ⟨rfl, rfl⟩)
  refine bodyPost_ret (results_none rfl _ _ _) rfl ?_
  exact ⟨⟨_, rfl⟩, rfl⟩

theorem info3 : (Tryd.prog.info? 3).map (fun i => (i.zero, i.size, i.bytes)) = some (some (.int .i64 0), 1, 8) := by kernel_rfl

theorem ownsRow_weak {W : World} {b b' : Nat} {e : TypeId} {size : Nat} {v : Value} {n : Nat} {xs : List Value} (h : W.ownsRow b e size v n xs) (hb : b' ≤ b) : W.ownsRow b' e size v n xs := by
  refine ⟨h.1, ?_⟩
  rcases h.2 with h | ⟨g, cap, cur, h1, h2, h3⟩
  · exact .inl h
  · exact .inr ⟨g, cap, cur, h1, by omega, h3⟩

abbrev isKids (B : Addr) (ks : List Int) (h n₁ : Nat) (W : World) (Bn Bi : Nat) (F : Fence) (n : Nat) : Prop :=
  SeqStopsK F n Tryd.prog 77 #[.pointer (some ⟨Bn, 0, none⟩), .pointer (some ⟨Bi, 0, none⟩)] (fun x : Int => #[Value.int .i64 x, .pointer (some (B.add (x.toNat * 9)))]) (KpX n₁ h) (fun ys => ys = ks) (fun pre => pre <+: ks) ks.length W

theorem kids20_in (F : Fence) (n : Nat) (h20 : F.fn 47) (h30 : F.fn 62) (h32 : F.fn 77) (hro : F.round = none) (hn : 3 ≤ n) (A : Option Addr) (B : Addr) (i : Int) (ks : List Int) (hlen : ks.length ≤ 1000000) (w : World)
    (hit : isKids B ks w.heap.size (w.heap.size + 3) (((w.alloc (.cells #[.slice none 0 0] 41)).alloc (.cells #[.pointer A] 46)).alloc (.cells #[.int .i64 i] 3)) (w.heap.size + 1) (w.heap.size + 2) F (n - 1)) :
    CallsIn F n Tryd.prog 47 #[.pointer A, .int .i64 i] w fun e W' => ∃ v, e = .returned v ∧ W'.ownsRow (w.heap.size + 3) 3 1 v ks.length (ks.map (Value.int .i64)) ∧ Below w.heap.size w W' := by
  have h1 : 1 ≤ n := by omega
  obtain ⟨i0, hi, hz0, hz1, hz2⟩ := info_parts info3
  refine callsIn_of_wp_marks Tryd.func47 rfl h20 ?_ hro
  simp only [Tryd.ntmps47, List.size_toArray, List.length_cons, List.length_nil, Nat.reduceAdd, Nat.reduceSub, Array.replicate_succ, Array.replicate_zero, List.push_toArray, List.append_toArray, List.nil_append, List.cons_append]
  gi_wp2_with (gi_at_call 62; refine (kids_in F (n - 1) h30 hro _ _ _).mono ?_; rintro e w' ⟨rfl, rfl⟩)
  obtain ⟨W0, hW0⟩ : ∃ W0, ((w.alloc (.cells #[.slice none 0 0] 41)).alloc (.cells #[.pointer A] 46)).alloc (.cells #[.int .i64 i] 3) = W0 := ⟨_, rfl⟩
  have hsz : W0.heap.size = w.heap.size + 3 := by rw [← hW0]; simp
  have bO : Boxed W0 w.heap.size 41 (.slice none 0 0) := by rw [← hW0]; exact ((Boxed.new w 41 (.slice none 0 0)).alloc _).alloc _
  have hB0 : Below w.heap.size w W0 := by rw [← hW0]; exact (((Below.refl _ w).alloc (Nat.le_refl _) _).alloc (by simp) _).alloc (by simp; omega) _
  try simp only [World.size_alloc, Nat.add_assoc, Nat.reduceAdd] at *
  rw [hW0] at hit ⊢
  refine wpIn_rangeFunc_ownG hro h1 (gf := 77) (lb := #[.pointer (some ⟨w.heap.size + 1, 0, none⟩), .pointer (some ⟨w.heap.size + 2, 0, none⟩)]) rfl h32 (enters_of Tryd.func77 (by kernel_rfl) rfl)
    hit KpX.trans (KpX.put (by omega)) (Below.refl _ _) (fun _ => rfl)
    (fun pre W => (∃ v, Boxed W w.heap.size 41 v ∧ W.ownsRow (w.heap.size + 3) 3 1 v pre.length (pre.map (Value.int .i64)) ∧ True) ∧ Below w.heap.size W0 W)
    (fun _ _ _ => False)
    (OwnFrom.and (Own.from (holdsRow_own (w.heap.size + 3) w.heap.size 41 3 1 (fun pre : List Int => pre.length) (fun pre : List Int => pre.map (Value.int .i64)) (fun _ _ => True)) _) (ownFrom_below (by omega) (by omega)))
    (fun _ _ _ _ _ hs _ _ => hs)
    ⟨⟨_, bO, World.ownsRow_nil _ _ _ _, trivial⟩, Below.refl _ _⟩
    (fun x => { tmps := #[.pointer A, .int .i64 i, undef, undef, .slice none 0 0, .pointer (some ⟨w.heap.size, 0, none⟩), .int .i64 x, .pointer A, .int .i64 i, .func (.func 77) #[] #[.pointer (some ⟨w.heap.size + 1, 0, none⟩), .pointer (some ⟨w.heap.size + 2, 0, none⟩)], .int .i64 x, .pointer (some (B.add (x.toNat * 9))), undef, undef, undef, undef, undef], defers := [] }) ?assign ?body ?done ?stop
  case assign =>
    intro l x W K hK
    gi_wp2
    exact hK
  case body =>
    rintro l pre x W ⟨⟨v, hv, hrow, _⟩, hB⟩ hlt
    have hc := hv.cell
    have hsB := hB.size
    have hmx : 1000001 ≤ Go.maxLen := by decide
    gi_wp2_with (gi_at_builtin; refine wpListIn_append_own _ rfl _ _ 41 rfl (w.heap.size + 3) 3 i0 (.int .i64 0) 1 8 Tryd.underlying41 hi hz0 hz1 hz2 rfl (by decide) _ _ _ rfl (hrow.alloc _) ⟨W.heap.size, 0, none⟩ 1 1 [.int .i64 x] rfl rfl (cell_one_new _ _ _) (by simp [Value.oneCell']) (by omega) (by omega) (by simp; omega) ?_; intro v' w1 hown' hgrow _; obtain ⟨g', cap', rfl⟩ := ownsRow_succ hown'; obtain ⟨hv1, hv2, hr2, hk2, hb2⟩ := hv.appended (by decide) (ownsRow_weak hrow (Nat.le_add_right w.heap.size 3)) (by omega) (Nat.le_refl _) (ownsRow_weak hown' (Nat.le_add_right w.heap.size 3)) hgrow; have hc1 := hv1.cell; have hf1 := hv1.frozen)
    have hr3 := hown'.kept (grownBy_setCell' w1 w.heap.size (.slice (some ⟨g', 0, none⟩) (pre.length + 1) cap')) (.inr (hv1.not_row (by decide) hown').symm)
    refine ⟨hk2.from _, ⟨hb2.size, fun b hb hne => ?_⟩, ⟨_, hv2, by simpa using hr3, trivial⟩, hB.trans hb2⟩
    have hnb : some b ≠ v.ownBlock := by
      rcases hrow.2 with ⟨rfl, _⟩ | ⟨g, cap, cur, rfl, hg, _⟩
      · simp [Value.ownBlock]
      · intro e
        have : b = g := by simpa [Value.ownBlock] using e
        omega
    have hbl : b < W.heap.size := by omega
    rw [Below.heap_setCell _ _ _ b hne, hgrow.block b (by simp; omega) hnb, Below.heap_alloc _ _ _ hbl]
  case done =>
    rintro D ys W hD rfl ⟨⟨v, hv, hrow, hnil⟩, hB⟩ hK
    have hc := hv.cell
    gi_wp2
    refine ⟨by simp, .inl ⟨_, _, rfl, run_takeDeferred hK, ?_⟩⟩
    exact ⟨_, results_tmp rfl _ _ _, v, rfl, ownsRow_putObj hrow _ hK rfl, (hB0.trans hB).trans (belowK_b (w := w) (Nat.le_refl _) W D _ _ (by omega) hK rfl rfl)⟩
  case stop =>
    rintro D c pre W _ _ h _
    exact h.elim
abbrev Idx (nodes : List NodeI) := { x : Int // 0 ≤ x ∧ x < (nodes.length : Int) }

abbrev isKidsS (B : Addr) (nodes : List NodeI) (ks : List Int) (h n₁ : Nat) (W : World) (Bn Bi : Nat) (F : Fence) (n : Nat) : Prop :=
  SeqStopsK F n Tryd.prog 77 #[.pointer (some ⟨Bn, 0, none⟩), .pointer (some ⟨Bi, 0, none⟩)] (fun x : Idx nodes => #[Value.int .i64 x.1, .pointer (some (B.add (x.1.toNat * 9)))]) (KpX n₁ h) (fun ys => ys.map (·.1) = ks) (fun pre => pre.map (·.1) <+: ks) ks.length W

def hit (nodes : List NodeI) (name : List UInt8) (k : Int) : Bool := (nodes.getD k.toNat (Ty.dflt NodeT)).name == name

theorem KMem.below {n₁ h : Nat} {W W' : World} {A B : Addr} {cap : Nat} {nodes : List NodeI} (m : KMem n₁ h W A B cap nodes) (k : Below n₁ W W') : KMem n₁ h W' A B cap nodes := m.kept ⟨k.size, fun b h1 _ => k.block b h1⟩

theorem find15_in (F : Fence) (n : Nat) (h15 : F.fn 46) (h24 : F.fn 52) (h30 : F.fn 62) (h32 : F.fn 77) (hro : F.round = none) (hn : 3 ≤ n) (A : Addr) (B : Addr) (cap : Nat) (nodes : List NodeI) (i : Int) (name : List UInt8) (ks : List Int) (w : World)
    (hM : KMem w.heap.size w.heap.size w A B cap nodes) (hi0 : 0 ≤ i) (hi1 : i < (nodes.length : Int)) (hk : (nodes.getD i.toNat (Ty.dflt NodeT)).kind = 6)
    (res : Int) (hres : (match ks.find? (hit nodes name) with | some k => k | none => -1) = res) (hit0 : isKidsS B nodes ks w.heap.size (w.heap.size + 4) ((((w.alloc (.cells #[strV name] 9)).alloc (.cells #[.int .i64 0] 3)).alloc (.cells #[.pointer (some A)] 46)).alloc (.cells #[.int .i64 i] 3)) (w.heap.size + 2) (w.heap.size + 3) F (n - 1)) :
    CallsIn F n Tryd.prog 46 #[.pointer (some A), .int .i64 i, strV name] w fun e W' => e = .returned (.int .i64 res) ∧ Below w.heap.size w W' := by
  have h1 : 1 ≤ n := by omega
  refine callsIn_of_wp_marks Tryd.func46 rfl h15 ?_ hro
  simp only [Tryd.ntmps46, List.size_toArray, List.length_cons, List.length_nil, Nat.reduceAdd, Nat.reduceSub, Array.replicate_succ, Array.replicate_zero, List.push_toArray, List.append_toArray, List.nil_append, List.cons_append]
  have hlt : i.toNat < nodes.length := by omega
  have hget : nodes[i.toNat]? = some (nodes.getD i.toNat (Ty.dflt NodeT)) := by rw [List.getD_eq_getElem?_getD, List.getElem?_eq_getElem hlt]; rfl
  obtain ⟨W1, hW1⟩ : ∃ W1, (w.alloc (.cells #[strV name] 9)).alloc (.cells #[.int .i64 0] 3) = W1 := ⟨_, rfl⟩
  have hB1 : Below w.heap.size w W1 := by rw [← hW1]; exact ((Below.refl _ w).alloc (Nat.le_refl _) _).alloc (by simp) _
  have hM1 := hM.below hB1
  have hA := hM1.cA
  have hf : W1.cell? (B.add (i.toNat * 9)) = some (.int .i64 6) := hk ▸ hM1.kind _ _ hget
  gi_wp2_with (first | (gi_at_call 52; refine (at_in F _ h24 hro A B _ _ _ _ hA hi0 hi1 hM1.le).mono ?_; rintro e w' ⟨rfl, e1⟩; obtain rfl : W1 = w' := e1.symm) | (gi_at_call 62; refine (kids_in F (n - 1) h30 hro _ _ _).mono ?_; rintro e w' ⟨rfl, rfl⟩))
  have hs1 : W1.heap.size = w.heap.size + 2 := by rw [← hW1]; simp
  have bN1 : Boxed W1 w.heap.size 9 (strV name) := by rw [← hW1]; exact (Boxed.new w 9 (strV name)).alloc _
  have bR1 : Boxed W1 (w.heap.size + 1) 3 (.int .i64 0) := by rw [← hW1]; have := Boxed.new (w.alloc (.cells #[strV name] 9)) 3 (.int .i64 0); rwa [World.size_alloc] at this
  rw [hW1] at hit0
  obtain ⟨W0, hW0⟩ : ∃ W0, (W1.alloc (.cells #[.pointer (some A)] 46)).alloc (.cells #[.int .i64 i] 3) = W0 := ⟨_, rfl⟩
  have hs0 : W0.heap.size = w.heap.size + 4 := by rw [← hW0]; simp; omega
  have bN : Boxed W0 w.heap.size 9 (strV name) := by rw [← hW0]; exact (bN1.alloc _).alloc _
  have bR : Boxed W0 (w.heap.size + 1) 3 (.int .i64 0) := by rw [← hW0]; exact (bR1.alloc _).alloc _
  have hB0 : Below w.heap.size w W0 := by rw [← hW0]; exact (hB1.alloc (by omega) _).alloc (by simp; omega) _
  have hM0 := hM.below hB0
  rw [hW0] at hit0 ⊢
  have e3 : w.heap.size + 2 + 1 = w.heap.size + 3 := rfl
  simp only [hs1, e3]
  refine wpIn_rangeFunc_ownG hro h1 (gf := 77) (lb := #[.pointer (some ⟨w.heap.size + 2, 0, none⟩), .pointer (some ⟨w.heap.size + 3, 0, none⟩)]) rfl h32 (enters_of Tryd.func77 (by kernel_rfl) rfl)
    hit0 KpX.trans (KpX.put (by omega)) (Below.refl _ _) (fun _ => rfl)
    (fun pre W => (Boxed W w.heap.size 9 (strV name) ∧ Boxed W (w.heap.size + 1) 3 (.int .i64 0)) ∧ Below w.heap.size W0 W ∧ ∀ k ∈ pre, hit nodes name k.1 = false)
    (fun c pre W => (c = .ret ∧ Below w.heap.size W0 W ∧ ∃ pre' x, pre = pre' ++ [x] ∧ hit nodes name x.1 = true ∧ (∀ k ∈ pre', hit nodes name k.1 = false) ∧ Boxed W (w.heap.size + 1) 3 (.int .i64 x.1)))
    ?hI ?hIx
    ⟨⟨bN, bR⟩, Below.refl _ _, by simp⟩
    (fun x => { tmps := #[.pointer (some A), .int .i64 i, strV name, undef, undef, .pointer (some ⟨w.heap.size, 0, none⟩), .pointer (some ⟨w.heap.size + 1, 0, none⟩), .pointer (some (B.add (i.toNat * 9))), .int .i64 x.1, .pointer (some (B.add (x.1.toNat * 9))), .pointer (some A), .int .i64 i, .pointer (some (B.add (i.toNat * 9))),
      .pointer (some (B.add (i.toNat * 9))), .bool false, .bool false, .pointer (some (B.add (i.toNat * 9))), .pointer (some (B.add (i.toNat * 9))), .pointer (some (B.add (i.toNat * 9))), .pointer (some (B.add (i.toNat * 9))), .int .i64 6, .bool false, .bool false, .pointer (some A), .int .i64 i,
      .func (.func 77) #[] #[.pointer (some ⟨w.heap.size + 2, 0, none⟩), .pointer (some ⟨w.heap.size + 3, 0, none⟩)], .int .i64 x.1, .pointer (some (B.add (x.1.toNat * 9))), undef, undef, undef, undef, undef, undef, undef, undef], defers := [] }) ?assign ?body ?done ?stop
  case hI =>
    intro s A' B' row hs hg hr
    have hb := ownFrom_below (β := Unit) (n₀ := w.heap.size) (B := W0.heap.size) (w₀ := W0) (by omega) (by omega) () A' B' row hs.2.1 hg hr
    exact ⟨⟨hs.1.1.kept hg (fun e => by have := (hr _ e.symm).1; omega), hs.1.2.kept hg (fun e => by have := (hr _ e.symm).1; omega)⟩, hb, hs.2.2⟩
  case hIx =>
    intro c s A' B' row hs hg hr
    obtain ⟨rfl, h2, pre', x, e, h3, h4, h5⟩ := hs
    have hb := ownFrom_below (β := Unit) (n₀ := w.heap.size) (B := W0.heap.size) (w₀ := W0) (by omega) (by omega) () A' B' row h2 hg hr
    exact ⟨rfl, hb, pre', x, e, h3, h4, h5.kept hg (fun e => by have := (hr _ e.symm).1; omega)⟩
  case assign =>
    intro l x W K hK
    gi_wp2
    exact hK
  case body =>
    rintro l pre x W ⟨⟨hbN, hbR⟩, hB, hno⟩ hlt
    have hc1 := hbN.cell
    have hc2 := hbR.cell
    have hf2 := hbR.frozen
    have hMW := hM0.below hB
    have hltx : x.1.toNat < nodes.length := by have := x.2; omega
    have hgetx : nodes[x.1.toNat]? = some (nodes.getD x.1.toNat (Ty.dflt NodeT)) := by rw [List.getD_eq_getElem?_getD, List.getElem?_eq_getElem hltx]; rfl
    obtain ⟨nx, hnx⟩ : ∃ nx, (nodes.getD x.1.toNat (Ty.dflt NodeT)).name = nx := ⟨_, rfl⟩
    have hfn : W.cell? { block := (B.add (x.1.toNat * 9)).block, off := (B.add (x.1.toNat * 9)).off + 4 } = some (strV nx) := hnx ▸ hMW.name _ _ hgetx
    have hit1 : hit nodes name x.1 = (nx == name) := by unfold hit; rw [hnx]
    have hd : Boxed W.drew (w.heap.size + 1) 3 (.int .i64 0) := hbR
    gi_wp2
    gi_region
    all_goals gi_wp2
    all_goals first
      | (have hx : (nx == name) = true := by assumption
         exact ⟨((KeepsOthers.setCell _ _ _).trans (KeepsOthers.drew _)).from _, rfl, (hB.setCell (p := ⟨w.heap.size + 1, 0, none⟩) (by simp) _).drew, pre, x, rfl, hit1.trans hx, hno, hd.set _⟩)
      | (have hx : (nx == name) = false := by assumption
         refine ⟨(KeepsOthers.drew _).from _, ⟨Nat.le_refl _, fun _ _ _ => rfl⟩, ⟨hbN, hbR⟩, hB.drew, ?_⟩
         intro k hk
         rcases List.mem_append.1 hk with hk | hk
         · exact hno k hk
         · simp at hk; subst hk; exact hit1.trans hx)
  case done =>
    rintro D ys W hD rfl ⟨⟨hbN, hbR⟩, hB, hno⟩ hK
    have hc2 := hbR.cell
    have hf2 := hbR.frozen
    have hfind : (ys.map (·.1)).find? (hit nodes name) = none := by
      rw [List.find?_eq_none]
      intro k hk
      obtain ⟨y, hy, rfl⟩ := List.mem_map.1 hk
      simp [hno y hy]
    rw [hfind] at hres
    subst hres
    gi_wp2
    have hK' := (KeepsOthers.setCell W ⟨w.heap.size + 1, 0, none⟩ (.int .i64 (-1))).same D _ hK rfl
    refine ⟨by simp, .inl ⟨_, _, rfl, run_takeDeferred hK', ?_⟩⟩
    have hc5 := cell_kept (World.cell?_setCell_same' W ⟨w.heap.size + 1, 0, none⟩ (.int .i64 (-1)) (by rw [hc2]; rfl)) (grownBy_putObj' _ D (.deferred none)) (fun r e => by cases e; exact ⟨_, hK', rfl⟩)
    refine ⟨.int .i64 (-1), ?_, rfl, ((hB0.trans hB).setCell (p := ⟨w.heap.size + 1, 0, none⟩) (by simp) _).trans (belowK_b (w := w) (Nat.le_refl _) _ D _ _ (by omega) hK' rfl rfl)⟩
    simp [results, Tryd.f46, go_sem, hc5]
  case stop =>
    rintro D c pre W hD hpre ⟨rfl, hB, pre', x, rfl, h3, h4, h5⟩ hK
    have hc2 := h5.cell
    have hfind : ks.find? (hit nodes name) = some x.1 := by
      obtain ⟨t, rfl⟩ := hpre
      have h0 : (pre'.map (·.1)).find? (hit nodes name) = none := by
        rw [List.find?_eq_none]
        intro k hk
        obtain ⟨y, hy, rfl⟩ := List.mem_map.1 hk
        simp [h4 y hy]
      rw [List.find?_append, List.map_append, List.find?_append, h0]
      simp [h3]
    rw [hfind] at hres
    subst hres
    gi_wp2
    refine ⟨by simp, .inl ⟨_, _, rfl, run_takeDeferred hK, ?_⟩⟩
    have hc5 := cell_kept hc2 (grownBy_putObj' _ D (.deferred none)) (fun r e => by cases e; exact ⟨_, hK, rfl⟩)
    refine ⟨.int .i64 x.1, ?_, rfl, (hB0.trans hB).trans (belowK_b (w := w) (Nat.le_refl _) W D _ _ (by omega) hK rfl rfl)⟩
    simp [results, Tryd.f46, go_sem, hc5]
/-! ### The functions -/

def kidsL (nodes : List NodeI) : Nat → Int → Option (List Int)
  | 0, _ => none
  | m + 1, p => bif p == -1 then some [] else bif decide (0 ≤ p) && decide (p < (nodes.length : Int)) then
      (match kidsL nodes m (nodes.getD p.toNat (Ty.dflt NodeT)).next with
      | some l => some (p :: l)
      | none => none) else none

theorem kidsL_run {nodes : List NodeI} : ∀ {m : Nat} {p : Int} {ks : List Int}, kidsL nodes m p = some ks → KRun nodes p ks
  | 0, _, _, h => by cases h
  | m + 1, p, ks, h => by
    simp only [kidsL] at h
    cases h1 : (p == -1) with
    | true => rw [h1] at h; cases h; show p = -1; simpa using h1
    | false =>
      rw [h1] at h
      simp only [cond_false] at h
      cases h2 : (decide (0 ≤ p) && decide (p < (nodes.length : Int))) with
      | false => rw [h2] at h; cases h
      | true =>
        rw [h2] at h
        simp only [cond_true] at h
        simp only [Bool.and_eq_true, decide_eq_true_eq] at h2
        split at h
        · rename_i l hl
          cases h
          exact ⟨rfl, h2.1, h2.2, kidsL_run hl⟩
        · cases h

abbrev ArenaT : Ty := .pair (.slice NodeT) .unit

/-- What is told of a node's kids: none, where there is no such node. -/
def kidsOf (n : Nat) (x : Option (List NodeI × Unit)) (i : Int) : Option (List Int) :=
  match x with
  | none => bif decide (i < 0) then some [] else none
  | some ar => bif decide (0 ≤ i) && decide (i < (ar.1.length : Int)) then kidsL ar.1 n (ar.1.getD i.toNat (Ty.dflt NodeT)).first else some []

def F47 (n : Nat) (x : Option (List NodeI × Unit)) (i : Int) : Option (List Int) :=
  match kidsOf n x i with
  | some l => bif decide (l.length ≤ 1000000) then some l else none
  | none => none

def F46 (n : Nat) (x : Option (List NodeI × Unit)) (i : Int) (name : List UInt8) : Option Int :=
  match x with
  | none => bif decide (i < 0) then some (-1) else none
  | some ar => bif decide (0 ≤ i) && decide (i < (ar.1.length : Int)) then
      (bif (ar.1.getD i.toNat (Ty.dflt NodeT)).kind == 6 then
        (match kidsL ar.1 n (ar.1.getD i.toNat (Ty.dflt NodeT)).first with
        | some ks => some (match ks.find? (hit ar.1 name) with | some k => k | none => -1)
        | none => none) else some (-1)) else some (-1)

theorem kx_of_below {n₁ h m : Nat} {A B : World} (k : Below m A B) (hm : n₁ ≤ m) : KpX n₁ h A B := ⟨k.size, fun b h1 _ => k.block b (by omega)⟩

theorem seq_kids (F : Fence) (n : Nat) (h32 : F.fn 77) (h24 : F.fn 52) (hro : F.round = none) (hn : 1 ≤ n) (h n₁ Bn Bi : Nat) (A B : Addr) (cap : Nat) (nodes : List NodeI) (i : Int) (ks : List Int)
    (W : World) (hBn : W.cell? ⟨Bn, 0, none⟩ = some (.pointer (some A))) (hBi : W.cell? ⟨Bi, 0, none⟩ = some (.int .i64 i)) (hbn : Bn < n₁ ∧ Bn ≠ h) (hbi : Bi < W.heap.size) (hn1 : n₁ ≤ W.heap.size) (hM : KMem n₁ h W A B cap nodes)
    (hi0 : 0 ≤ i) (hi1 : i < (nodes.length : Int)) (hR : KRun nodes ((nodes.getD i.toNat (Ty.dflt NodeT)).first) ks) : isKids B ks h n₁ W Bn Bi F n := by
  intro l J Jx W' hW _ _ hY h0
  exact it_in F n h32 h24 hro hn l h n₁ Bn Bi A B cap nodes i ks J Jx (fun pre x W _ _ => hY pre x W) W' ((hW.cell (p := ⟨Bn, 0, none⟩) (by show Bn < _; omega)).trans hBn) ((hW.cell (p := ⟨Bi, 0, none⟩) hbi).trans hBi) hbn (hM.kept (kx_of_below hW hn1)) hi0 hi1 hR h0

theorem seq_kidsS (F : Fence) (n : Nat) (h32 : F.fn 77) (h24 : F.fn 52) (hro : F.round = none) (hn : 1 ≤ n) (h n₁ Bn Bi : Nat) (A B : Addr) (cap : Nat) (nodes : List NodeI) (i : Int) (ks : List Int)
    (W : World) (hBn : W.cell? ⟨Bn, 0, none⟩ = some (.pointer (some A))) (hBi : W.cell? ⟨Bi, 0, none⟩ = some (.int .i64 i)) (hbn : Bn < n₁ ∧ Bn ≠ h) (hbi : Bi < W.heap.size) (hn1 : n₁ ≤ W.heap.size) (hM : KMem n₁ h W A B cap nodes)
    (hi0 : 0 ≤ i) (hi1 : i < (nodes.length : Int)) (hR : KRun nodes ((nodes.getD i.toNat (Ty.dflt NodeT)).first) ks) : isKidsS B nodes ks h n₁ W Bn Bi F n := by
  intro l J Jx W' hW _ _ hY h0
  refine (it_in F n h32 h24 hro hn l h n₁ Bn Bi A B cap nodes i ks (fun pre W => ∃ ls : List (Idx nodes), ls.map (·.1) = pre ∧ J ls W) (fun pre W => ∃ ls : List (Idx nodes), ls.map (·.1) = pre ∧ Jx ls W) ?_ W' ((hW.cell (p := ⟨Bn, 0, none⟩) (by show Bn < _; omega)).trans hBn) ((hW.cell (p := ⟨Bi, 0, none⟩) hbi).trans hBi) hbn (hM.kept (kx_of_below hW hn1)) hi0 hi1 hR ⟨[], rfl, h0⟩).mono ?_
  · rintro pre x W1 hx0 hx1 ⟨ls, e, hJ⟩ hlen
    refine YieldAt.mono (hY ls ⟨x, hx0, hx1⟩ W1 hJ (by rw [← e] at hlen; simpa using hlen)) ?_
    rintro e' W2 (⟨rfl, h1, h2⟩ | ⟨rfl, h1⟩)
    · exact .inl ⟨rfl, ⟨_, by simp [e], h1⟩, h2⟩
    · exact .inr ⟨rfl, _, by simp [e], h1⟩
  · rintro e' W2 ⟨h1, ⟨ys, rfl, ls, e, h2⟩ | ⟨pre, hp, ls, e, h2⟩⟩
    · exact ⟨h1, .inl ⟨ls, e, h2⟩⟩
    · exact ⟨h1, .inr ⟨ls, by show ls.map (·.1) <+: ks; rw [e]; exact hp, h2⟩⟩

theorem mem_of {S : Nat → Prop} {w : World} {ar : List NodeI × Unit} {A : Addr} {sv : Value} (hS : ∀ b, S b → b < w.heap.size) (hA : S A.block ∧ w.cell? A = some sv) (hs : SlRep S w (RepC S w NodeT) ar.1 sv) (hne : ar.1 ≠ []) :
    ∃ B cap, KMem w.heap.size w.heap.size w A B cap ar.1 := by
  rcases hs with ⟨_, h⟩ | ⟨B, cap, cs, rfl, hc, hl, hr⟩
  · exact absurd h hne
  · have key : ∀ (p : Nat) (x : NodeI) (j : Nat) (u : Value), ar.1[p]? = some x → (∀ c, RepC S w NodeT x c → c[j]? = some u) → j < 9 → S B.block ∧ w.cell? ((B.add (p * 9)).add j) = some u := by
      intro p x j u hp hu hj
      obtain ⟨c, h1, h2⟩ := RepL.get (n := 9) (fun _ _ h => RepC.length h) p x hl hp
      have h3 := h2 j hj
      rw [hu c h1] at h3
      have := hr _ _ h3
      rw [add_add]
      exact this
    have cells : ∀ (x : NodeI) (c : List Value), RepC S w NodeT x c → ∃ b, c = [.int .i64 x.kind, b, .int .i64 x.1.2.2.1, strV x.1.2.2.2.1, strV x.name, .int .i64 x.first, .int .i64 x.next, .int .i64 x.2.1, .int .i64 x.2.2.1] := by
      intro x c h
      obtain ⟨c1, c2, rfl, ⟨_, _, rfl, rfl, _, _, rfl, rfl, _, _, rfl, rfl, _, _, rfl, rfl, _, _, rfl, rfl, _, _, rfl, rfl, _, _, rfl, rfl, rfl⟩, ⟨_, _, rfl, rfl, _, _, rfl, rfl, rfl⟩⟩ := h
      exact ⟨_, rfl⟩
    obtain ⟨x0, hx0⟩ : ∃ x0, ar.1[0]? = some x0 := by cases h : ar.1 with | nil => exact absurd h hne | cons a _ => exact ⟨a, rfl⟩
    have hB : S B.block := (key 0 x0 0 (.int .i64 x0.kind) hx0 (fun c h => by obtain ⟨b, rfl⟩ := cells _ _ h; rfl) (by omega)).1
    have ne : ∀ b, S b → b < w.heap.size ∧ b ≠ w.heap.size := fun b hb => ⟨hS b hb, by have := hS b hb; omega⟩
    refine ⟨B, cap, hA.2, hc, ne _ hA.1, fun _ => ne _ hB, fun p x hp => ?_, fun p x hp => ?_, fun p x hp => ?_, fun p x hp => ?_⟩
    · have := (key p x 0 (.int .i64 x.kind) hp (fun c h => by obtain ⟨b, rfl⟩ := cells _ _ h; rfl) (by omega)).2
      rwa [add_zero] at this
    · exact (key p x 4 (strV x.name) hp (fun c h => by obtain ⟨b, rfl⟩ := cells _ _ h; rfl) (by omega)).2
    · exact (key p x 5 (.int .i64 x.first) hp (fun c h => by obtain ⟨b, rfl⟩ := cells _ _ h; rfl) (by omega)).2
    · exact (key p x 6 (.int .i64 x.next) hp (fun c h => by obtain ⟨b, rfl⟩ := cells _ _ h; rfl) (by omega)).2

theorem slRep_owned {S : Nat → Prop} {W : World} {v : Value} {base : Nat} {ks : List Int} (h : W.ownsRow base 3 1 v ks.length (ks.map (Value.int .i64))) : SlRep (fun b => v.ownBlock = some b) W (RepC S W (.int .i64)) ks v := by
  rcases h.2 with ⟨rfl, hn⟩ | ⟨g, cap, cur, rfl, _, hg, hc, _, hs, ht⟩
  · exact .inl ⟨rfl, List.length_eq_zero_iff.1 hn⟩
  · refine .inr ⟨⟨g, 0, none⟩, cap, ks.map (Value.int .i64), rfl, hc, ?_, fun j u hj => ⟨rfl, ?_⟩⟩
    · clear h hg hc hs ht
      induction ks with
      | nil => rfl
      | cons k r ih => exact ⟨[_], _, rfl, rfl, ih⟩
    · rw [add_none, Nat.zero_add]
      rw [← ht] at hj
      have hj2 : cur.toList[j]? = some u := by
        rw [List.getElem?_take] at hj
        split at hj
        · exact hj
        · cases hj
      simp only [Array.getElem?_toList] at hj2
      simp [World.cell?, hg, hj2]

theorem below_under {w w' : World} (h : Below w.heap.size w w') : Under w.heap.size (fun _ => False) w w' := ⟨h.os, h.tape, h.output, h.size, fun k hk _ => h.block k hk⟩

theorem sv_ref {S : Nat → Prop} {w : World} {τ : Ty} {x : Option τ.I} {v : Value} (h : SV S w (.val (.ref τ) x) v) : RefRep S w (RepC S w τ) x v := by
  obtain ⟨cs, ⟨v', rfl, h1⟩, h2⟩ := h
  have : [v'] = [v] ∧ _ := h2
  obtain ⟨e, _⟩ := this
  cases e
  exact h1
theorem sv_int {S : Nat → Prop} {w : World} {k : IntKind} {x : Int} {v : Value} (h : SV S w (.val (.int k) x) v) : v = .int k x := by
  obtain ⟨cs, h1, h2⟩ := h
  cases h1
  have : [_] = [v] ∧ _ := h2
  obtain ⟨e, _⟩ := this
  cases e
  rfl
theorem sv_str {S : Nat → Prop} {w : World} {x : List UInt8} {v : Value} (h : SV S w (.val .str x) v) : v = strV x := by
  obtain ⟨cs, h1, h2⟩ := h
  cases h1
  have : [_] = [v] ∧ _ := h2
  obtain ⟨e, _⟩ := this
  cases e
  rfl

theorem kids_calls {S : Nat → Prop} {w : World} (n : Nat) (x : Option (List NodeI × Unit)) (i : Int) (ks : List Int) (v : Value) (hS : ∀ b, S b → b < w.heap.size) (hx : RefRep S w (RepC S w ArenaT) x v) (h : kidsOf n x i = some ks) (hlen : ks.length ≤ 1000000) :
    Calls Tryd.prog 47 #[v, .int .i64 i] w fun e W' => ∃ v, e = .returned v ∧ W'.ownsRow (w.heap.size + 3) 3 1 v ks.length (ks.map (Value.int .i64)) ∧ Below w.heap.size w W' := by
  refine (callsIn_wide (n := 10)).1 ?_
  have c1 : ∀ (W : World) (a : Obj) (v : Value), (W.alloc (.cells #[v] 46)).heap.size = W.heap.size + 1 := by simp
  rcases hx with ⟨rfl, rfl⟩ | ⟨A, cs, ar, rfl, rfl, ⟨c1', c2', rfl, ⟨sv, rfl, hs⟩, rfl⟩, hc⟩
  · -- nil
    simp only [kidsOf] at h
    cases hd : decide (i < 0) with
    | false => rw [hd] at h; cases h
    | true =>
      rw [hd] at h
      cases h
      refine kids20_in Fence.wide 10 trivial trivial trivial rfl (by omega) none default i [] hlen w ?_
      intro l J Jx W' hW _ _ hY h0
      have bN := Boxed.new (w.alloc (.cells #[.slice none 0 0] 41)) 46 (.pointer none)
      have bI := Boxed.new ((w.alloc (.cells #[.slice none 0 0] 41)).alloc (.cells #[.pointer none] 46)) 3 (.int .i64 i)
      simp only [World.size_alloc, Nat.add_assoc, Nat.reduceAdd] at bN bI
      have bN := (bN.alloc (.cells #[.int .i64 i] 3)).cell
      have bI := bI.cell
      refine (it_neg Fence.wide 9 trivial trivial rfl (by omega) l _ _ none i W' ((hW.cell (p := ⟨w.heap.size + 1, 0, none⟩) (by simp)).trans bN) ((hW.cell (p := ⟨w.heap.size + 2, 0, none⟩) (by simp)).trans bI) (by simpa using hd)).mono ?_
      rintro e W2 ⟨h1, rfl⟩
      exact ⟨h1, .inl ⟨[], rfl, h0⟩⟩
  · have hA : S A.block ∧ w.cell? A = some sv := by have := hc 0 sv rfl; rwa [add_zero] at this
    simp only [kidsOf] at h
    have bN := Boxed.new (w.alloc (.cells #[.slice none 0 0] 41)) 46 (.pointer (some A))
    have bI := Boxed.new ((w.alloc (.cells #[.slice none 0 0] 41)).alloc (.cells #[.pointer (some A)] 46)) 3 (.int .i64 i)
    simp only [World.size_alloc, Nat.add_assoc, Nat.reduceAdd] at bN bI
    have bN := (bN.alloc (.cells #[.int .i64 i] 3)).cell
    have bI := bI.cell
    have hB0 : Below w.heap.size w (((w.alloc (.cells #[.slice none 0 0] 41)).alloc (.cells #[.pointer (some A)] 46)).alloc (.cells #[.int .i64 i] 3)) := (((Below.refl _ w).alloc (Nat.le_refl _) _).alloc (by simp) _).alloc (by simp; omega) _
    cases hd : (decide (0 ≤ i) && decide (i < (ar.1.length : Int))) with
    | true =>
      rw [hd] at h
      simp only [cond_true] at h
      simp only [Bool.and_eq_true, decide_eq_true_eq] at hd
      have hne : ar.1 ≠ [] := by intro e; rw [e] at hd; simp at hd; omega
      obtain ⟨B, cap, hM⟩ := mem_of hS hA hs hne
      have hM0 := hM.below hB0
      have hM1 : KMem (w.heap.size + 3) w.heap.size (((w.alloc (.cells #[.slice none 0 0] 41)).alloc (.cells #[.pointer (some A)] 46)).alloc (.cells #[.int .i64 i] 3)) A B cap ar.1 := ⟨hM0.cA, hM0.le, ⟨by have := hM0.bA.1; omega, hM0.bA.2⟩, fun h => ⟨by have := (hM0.bB h).1; omega, (hM0.bB h).2⟩, hM0.kind, hM0.name, hM0.first, hM0.next⟩
      exact kids20_in Fence.wide 10 trivial trivial trivial rfl (by omega) (some A) B i ks hlen w (seq_kids Fence.wide 9 trivial trivial rfl (by omega) _ _ _ _ A B cap ar.1 i ks _ bN bI (by omega) (by simp) (by simp) hM1 hd.1 hd.2 (kidsL_run h))
    | false =>
      rw [hd] at h
      cases h
      refine kids20_in Fence.wide 10 trivial trivial trivial rfl (by omega) (some A) default i [] hlen w ?_
      intro l J Jx W' hW _ _ hY h0
      have hbn := (hW.cell (p := ⟨w.heap.size + 1, 0, none⟩) (by simp)).trans bN
      have hbi := (hW.cell (p := ⟨w.heap.size + 2, 0, none⟩) (by simp)).trans bI
      have hA' : W'.cell? A = some sv := by
        rw [hW.cell (p := A) (by have := hS _ hA.1; simp; omega), hB0.cell (p := A) (hS _ hA.1)]
        exact hA.2
      have fin : ∀ {e : Ending} {W2 : World}, ((∃ v, e = .returned v) ∧ W2 = W') → (∃ v, e = .returned v) ∧ ((∃ xs, xs = ([] : List Int) ∧ J xs W2) ∨ ∃ pre, pre <+: ([] : List Int) ∧ Jx pre W2) := by
        rintro e W2 ⟨h1, rfl⟩
        exact ⟨h1, .inl ⟨[], rfl, h0⟩⟩
      by_cases hi : i < 0
      · exact (it_neg Fence.wide 9 trivial trivial rfl (by omega) l _ _ (some A) i W' hbn hbi hi).mono fun _ _ => fin
      · have hi' : (ar.1.length : Int) ≤ i := by
          cases h3 : decide (i < (ar.1.length : Int)) with
          | true => rw [h3, decide_eq_true (by omega : 0 ≤ i)] at hd; cases hd
          | false => simpa using h3
        obtain ⟨b, len, cap, rfl, hl⟩ : ∃ b len cap, sv = .slice b len cap ∧ (len : Int) ≤ i := by
          rcases hs with ⟨rfl, h0⟩ | ⟨B, cap, cs, rfl, _⟩
          · exact ⟨_, _, _, rfl, by simp; omega⟩
          · exact ⟨_, _, _, rfl, hi'⟩
        exact (it_out Fence.wide 9 trivial trivial rfl (by omega) l _ _ A b len cap i W' hbn hbi hA' hl).mono fun _ _ => fin

noncomputable def c47 : Code := Tryd.f47.body.getD .skip
theorem enter47 : Enters Tryd.prog 47 := enters (by kernel_rfl : Tryd.prog.funcs[47]? = some Tryd.f47) (by kernel_rfl : Tryd.f47.body = some c47) (by kernel_rfl)

theorem TF47 (n : Nat) : ToldFresh Tryd.prog 47 [.ref ArenaT, .int .i64] [.slice (.int .i64)] (fun x => F47 n x.1 x.2) := by
  rintro ⟨x, i⟩ r h
  refine ⟨enter47, fun S w vs hbs hS hvs => ?_⟩
  cases hvs with
  | cons h1 h2 =>
    cases h2 with
    | cons h2 h3 =>
      cases h3
      have hx := sv_ref h1
      have hi := sv_int h2
      subst hi
      simp only [F47] at h
      split at h
      · rename_i l hl
        cases hd : decide (l.length ≤ 1000000) with
        | false => rw [hd] at h; cases h
        | true =>
          rw [hd] at h
          cases h
          refine (kids_calls n x i _ _ hS hx hl (by simpa using hd)).mono ?_
          rintro e W' ⟨v, rfl, ho, hB⟩
          refine ⟨v, fun b => v.ownBlock = some b, rfl, dv_slice (G := ⟨fun _ => 0, fun _ => .nilFunc, fun b => v.ownBlock = some b⟩) (slRep_owned ho), below_under hB, fun b hb => ?_⟩
          have := ho.lt b hb
          omega
      · cases h

theorem CallsFresh.abs {P : Program} {f : FuncId} {ds : List D} {d : D} (h : CallsFresh P f ds d) : CallsAbs P f ds d := by
  refine ⟨h.1, fun S w vs hbs hS hvs => (h.2 S w vs hbs hS hvs).mono ?_⟩
  rintro e w' ⟨v, S', rfl, hv, hu, hS'⟩
  refine ⟨v, fun b => S b ∨ S' b, rfl, DV.mono (G' := ⟨fun _ => 0, fun _ => .nilFunc, fun b => S b ∨ S' b⟩) (step_none _ _ _) ⟨fun b hb => Or.inr hb, fun _ _ => rfl⟩ hv, hu, fun b hb => .inl hb, fun b hb => ?_⟩
  rcases hb with hb | hb
  · exact ⟨Nat.lt_of_lt_of_le (hS b hb) hu.size, fun _ => hb⟩
  · exact ⟨(hS' b hb).2, fun hlt => by have := (hS' b hb).1; omega⟩

theorem T47 (n : Nat) : Told Tryd.prog 47 [.ref ArenaT, .int .i64] [.slice (.int .i64)] (fun x => F47 n x.1 x.2) := fun x r h => (TF47 n x r h).abs

theorem find15_neg (F : Fence) (n : Nat) (h15 : F.fn 46) (h24 : F.fn 52) (hro : F.round = none) (hn : 3 ≤ n) (A : Option Addr) (i : Int) (hi : i < 0) (name : List UInt8) (w : World) :
    CallsIn F n Tryd.prog 46 #[.pointer A, .int .i64 i, strV name] w fun e W' => e = .returned (.int .i64 (-1)) ∧ Below w.heap.size w W' := by
  have h1 : 1 ≤ n := by omega
  refine callsIn_of_wp Tryd.func46 rfl h15 ?_ hro
  simp only [Tryd.ntmps46, List.size_toArray, List.length_cons, List.length_nil, Nat.reduceAdd, Nat.reduceSub, Array.replicate_succ, Array.replicate_zero, List.push_toArray, List.append_toArray, List.nil_append, List.cons_append]
  obtain ⟨W1, hW1⟩ : ∃ W1, (w.alloc (.cells #[strV name] 9)).alloc (.cells #[.int .i64 0] 3) = W1 := ⟨_, rfl⟩
  have hB1 : Below w.heap.size w W1 := by rw [← hW1]; exact ((Below.refl _ w).alloc (Nat.le_refl _) _).alloc (by simp) _
  have bR1 : Boxed W1 (w.heap.size + 1) 3 (.int .i64 0) := by rw [← hW1]; have := Boxed.new (w.alloc (.cells #[strV name] 9)) 3 (.int .i64 0); rwa [World.size_alloc] at this
  have hc := bR1.cell
  have hf := bR1.frozen
  gi_wp2_with (gi_at_call 52; refine (at_neg F _ h24 hro A i _ hi).mono ?_; rintro e w' ⟨rfl, e1⟩; obtain rfl : W1 = w' := e1.symm)
  have hc5 := World.cell?_setCell_same' W1 ⟨w.heap.size + 1, 0, none⟩ (.int .i64 (-1)) (by rw [hc]; rfl)
  refine bodyPost_ret (v := .int .i64 (-1)) ?_ rfl ⟨rfl, hB1.setCell (p := ⟨w.heap.size + 1, 0, none⟩) (by simp) _⟩
  simp [results, Tryd.f46, go_sem, hc5]

theorem find15_out (F : Fence) (n : Nat) (h15 : F.fn 46) (h24 : F.fn 52) (hro : F.round = none) (hn : 3 ≤ n) (A : Addr) (B : Option Addr) (len cap : Nat) (i : Int) (hi : (len : Int) ≤ i) (name : List UInt8) (w : World) (hA : w.cell? A = some (.slice B len cap)) (hlt : A.block < w.heap.size) :
    CallsIn F n Tryd.prog 46 #[.pointer (some A), .int .i64 i, strV name] w fun e W' => e = .returned (.int .i64 (-1)) ∧ Below w.heap.size w W' := by
  have h1 : 1 ≤ n := by omega
  refine callsIn_of_wp Tryd.func46 rfl h15 ?_ hro
  simp only [Tryd.ntmps46, List.size_toArray, List.length_cons, List.length_nil, Nat.reduceAdd, Nat.reduceSub, Array.replicate_succ, Array.replicate_zero, List.push_toArray, List.append_toArray, List.nil_append, List.cons_append]
  obtain ⟨W1, hW1⟩ : ∃ W1, (w.alloc (.cells #[strV name] 9)).alloc (.cells #[.int .i64 0] 3) = W1 := ⟨_, rfl⟩
  have hB1 : Below w.heap.size w W1 := by rw [← hW1]; exact ((Below.refl _ w).alloc (Nat.le_refl _) _).alloc (by simp) _
  have bR1 : Boxed W1 (w.heap.size + 1) 3 (.int .i64 0) := by rw [← hW1]; have := Boxed.new (w.alloc (.cells #[strV name] 9)) 3 (.int .i64 0); rwa [World.size_alloc] at this
  have hc := bR1.cell
  have hA1 : W1.cell? A = some (.slice B len cap) := (hB1.cell (p := A) hlt).trans hA
  have hf := bR1.frozen
  gi_wp2_with (gi_at_call 52; refine (at_out F _ h24 hro A B len cap i _ hA1 hi).mono ?_; rintro e w' ⟨rfl, e1⟩; obtain rfl : W1 = w' := e1.symm)
  have hc5 := World.cell?_setCell_same' W1 ⟨w.heap.size + 1, 0, none⟩ (.int .i64 (-1)) (by rw [hc]; rfl)
  refine bodyPost_ret (v := .int .i64 (-1)) ?_ rfl ⟨rfl, hB1.setCell (p := ⟨w.heap.size + 1, 0, none⟩) (by simp) _⟩
  simp [results, Tryd.f46, go_sem, hc5]

theorem find15_kind (F : Fence) (n : Nat) (h15 : F.fn 46) (h24 : F.fn 52) (hro : F.round = none) (hn : 3 ≤ n) (A B : Addr) (cap : Nat) (nodes : List NodeI) (i : Int) (hi0 : 0 ≤ i) (hi1 : i < (nodes.length : Int)) (hk : (nodes.getD i.toNat (Ty.dflt NodeT)).kind ≠ 6) (name : List UInt8) (w : World) (hM : KMem w.heap.size w.heap.size w A B cap nodes) :
    CallsIn F n Tryd.prog 46 #[.pointer (some A), .int .i64 i, strV name] w fun e W' => e = .returned (.int .i64 (-1)) ∧ Below w.heap.size w W' := by
  have h1 : 1 ≤ n := by omega
  refine callsIn_of_wp Tryd.func46 rfl h15 ?_ hro
  simp only [Tryd.ntmps46, List.size_toArray, List.length_cons, List.length_nil, Nat.reduceAdd, Nat.reduceSub, Array.replicate_succ, Array.replicate_zero, List.push_toArray, List.append_toArray, List.nil_append, List.cons_append]
  obtain ⟨W1, hW1⟩ : ∃ W1, (w.alloc (.cells #[strV name] 9)).alloc (.cells #[.int .i64 0] 3) = W1 := ⟨_, rfl⟩
  have hB1 : Below w.heap.size w W1 := by rw [← hW1]; exact ((Below.refl _ w).alloc (Nat.le_refl _) _).alloc (by simp) _
  have bR1 : Boxed W1 (w.heap.size + 1) 3 (.int .i64 0) := by rw [← hW1]; have := Boxed.new (w.alloc (.cells #[strV name] 9)) 3 (.int .i64 0); rwa [World.size_alloc] at this
  have hc := bR1.cell
  have hlt : i.toNat < nodes.length := by omega
  have hget : nodes[i.toNat]? = some (nodes.getD i.toNat (Ty.dflt NodeT)) := by rw [List.getD_eq_getElem?_getD, List.getElem?_eq_getElem hlt]; rfl
  have hM1 := hM.below hB1
  have hA := hM1.cA
  obtain ⟨kd, hkd⟩ : ∃ kd, (nodes.getD i.toNat (Ty.dflt NodeT)).kind = kd := ⟨_, rfl⟩
  rw [hkd] at hk
  have hfk : W1.cell? (B.add (i.toNat * 9)) = some (.int .i64 kd) := hkd ▸ hM1.kind _ _ hget
  have hf := bR1.frozen
  gi_wp2_with (gi_at_call 52; refine (at_in F _ h24 hro A B _ _ _ _ hA hi0 hi1 hM1.le).mono ?_; rintro e w' ⟨rfl, e1⟩; obtain rfl : W1 = w' := e1.symm)
  have hc5 := World.cell?_setCell_same' W1 ⟨w.heap.size + 1, 0, none⟩ (.int .i64 (-1)) (by rw [hc]; rfl)
  refine bodyPost_ret (v := .int .i64 (-1)) ?_ rfl ⟨rfl, hB1.setCell (p := ⟨w.heap.size + 1, 0, none⟩) (by simp) _⟩
  simp [results, Tryd.f46, go_sem, hc5]

theorem find_calls {S : Nat → Prop} {w : World} (n : Nat) (x : Option (List NodeI × Unit)) (i : Int) (name : List UInt8) (r : Int) (v : Value) (hS : ∀ b, S b → b < w.heap.size) (hx : RefRep S w (RepC S w ArenaT) x v) (h : F46 n x i name = some r) :
    Calls Tryd.prog 46 #[v, .int .i64 i, strV name] w fun e W' => e = .returned (.int .i64 r) ∧ Below w.heap.size w W' := by
  refine (callsIn_wide (n := 10)).1 ?_
  rcases hx with ⟨rfl, rfl⟩ | ⟨A, cs, ar, rfl, rfl, ⟨c1', c2', rfl, ⟨sv, rfl, hs⟩, rfl⟩, hc⟩
  · simp only [F46] at h
    cases hd : decide (i < 0) with
    | false => rw [hd] at h; cases h
    | true =>
      rw [hd] at h
      cases h
      exact find15_neg Fence.wide 10 trivial trivial rfl (by omega) none i (by simpa using hd) name w
  · have hA : S A.block ∧ w.cell? A = some sv := by have := hc 0 sv rfl; rwa [add_zero] at this
    simp only [F46] at h
    cases hd : (decide (0 ≤ i) && decide (i < (ar.1.length : Int))) with
    | true =>
      rw [hd] at h
      simp only [cond_true] at h
      simp only [Bool.and_eq_true, decide_eq_true_eq] at hd
      have hne : ar.1 ≠ [] := by intro e; rw [e] at hd; simp at hd; omega
      obtain ⟨B, cap, hM⟩ := mem_of hS hA hs hne
      cases hk : NodeI.kind (ar.1.getD i.toNat (Ty.dflt NodeT)) == 6 with
      | false =>
        rw [hk] at h
        cases h
        exact find15_kind Fence.wide 10 trivial trivial rfl (by omega) A B cap ar.1 i hd.1 hd.2 (by simpa using hk) name w hM
      | true =>
        rw [hk] at h
        simp only [cond_true] at h
        split at h
        · rename_i ks hks
          cases h
          have bN := Boxed.new ((w.alloc (.cells #[strV name] 9)).alloc (.cells #[.int .i64 0] 3)) 46 (.pointer (some A))
          have bI := Boxed.new (((w.alloc (.cells #[strV name] 9)).alloc (.cells #[.int .i64 0] 3)).alloc (.cells #[.pointer (some A)] 46)) 3 (.int .i64 i)
          simp only [World.size_alloc, Nat.add_assoc, Nat.reduceAdd] at bN bI
          have bN := (bN.alloc (.cells #[.int .i64 i] 3)).cell
          have bI := bI.cell
          have hB0 : Below w.heap.size w ((((w.alloc (.cells #[strV name] 9)).alloc (.cells #[.int .i64 0] 3)).alloc (.cells #[.pointer (some A)] 46)).alloc (.cells #[.int .i64 i] 3)) := ((((Below.refl _ w).alloc (Nat.le_refl _) _).alloc (by simp) _).alloc (by simp; omega) _).alloc (by simp; omega) _
          have hM0 := hM.below hB0
          have hM1 : KMem (w.heap.size + 4) w.heap.size ((((w.alloc (.cells #[strV name] 9)).alloc (.cells #[.int .i64 0] 3)).alloc (.cells #[.pointer (some A)] 46)).alloc (.cells #[.int .i64 i] 3)) A B cap ar.1 := ⟨hM0.cA, hM0.le, ⟨by have := hM0.bA.1; omega, hM0.bA.2⟩, fun h => ⟨by have := (hM0.bB h).1; omega, (hM0.bB h).2⟩, hM0.kind, hM0.name, hM0.first, hM0.next⟩
          exact find15_in Fence.wide 10 trivial trivial trivial trivial rfl (by omega) A B cap ar.1 i name ks w hM hd.1 hd.2 (by simpa using hk) _ rfl
            (seq_kidsS Fence.wide 9 trivial trivial rfl (by omega) _ _ _ _ A B cap ar.1 i ks _ bN bI (by omega) (by simp) (by simp) hM1 hd.1 hd.2 (kidsL_run hks))
        · cases h
    | false =>
      rw [hd] at h
      cases h
      by_cases hi : i < 0
      · exact find15_neg Fence.wide 10 trivial trivial rfl (by omega) (some A) i hi name w
      · have hi' : (ar.1.length : Int) ≤ i := by
          cases h3 : decide (i < (ar.1.length : Int)) with
          | true => rw [h3, decide_eq_true (by omega : 0 ≤ i)] at hd; cases hd
          | false => simpa using h3
        obtain ⟨b, len, cap, rfl, hl⟩ : ∃ b len cap, sv = .slice b len cap ∧ (len : Int) ≤ i := by
          rcases hs with ⟨rfl, h0⟩ | ⟨B, cap, cs, rfl, _⟩
          · exact ⟨_, _, _, rfl, by simp; omega⟩
          · exact ⟨_, _, _, rfl, hi'⟩
        exact find15_out Fence.wide 10 trivial trivial rfl (by omega) A b len cap i hl name w hA.2 (hS _ hA.1)

noncomputable def c46 : Code := Tryd.f46.body.getD .skip
theorem enter46 : Enters Tryd.prog 46 := enters (by kernel_rfl : Tryd.prog.funcs[46]? = some Tryd.f46) (by kernel_rfl : Tryd.f46.body = some c46) (by kernel_rfl)

theorem T46 (n : Nat) : Told Tryd.prog 46 [.ref ArenaT, .int .i64, .str] [.int .i64] (fun x => F46 n x.1 x.2.1 x.2.2) := by
  rintro ⟨x, i, name⟩ r h
  refine ⟨enter46, fun S w vs hbs hS hvs => ?_⟩
  cases hvs with
  | cons h1 h2 =>
    cases h2 with
    | cons h2 h3 =>
      cases h3 with
      | cons h3 h4 =>
        cases h4
        have hx := sv_ref h1
        have hi := sv_int h2
        have hn := sv_str h3
        subst hi hn
        refine (find_calls n x i name r _ hS hx h).mono ?_
        rintro e W' ⟨rfl, hB⟩
        exact ⟨_, S, rfl, ⟨[.int .i64 r], rfl, rfl, rfl⟩, below_under hB, fun _ hb => hb, fun b hb => ⟨Nat.lt_of_lt_of_le (hS b hb) hB.size, fun _ => hb⟩⟩

end Go.Proofs.YtaeamjhgfhcjdaaDoor.Ab
