/- What abstract values mean in the model's memory: typed data that is never written again, own boxes, own slices. For every program, under no condition. -/
import Derived.WalkKit
import Derived.ProofKit
import Derived.Below
import Derived.Laws.AppendOwn
import Derived.Laws.OwnMore
import Derived.Laws.MakeOwn
import Derived.Orders
import Derived.KernelRfl
import Derived.Test.YtllhidkadhoipaaDoorB1
namespace Go.Proofs.YtllhidkadhoipaaDoor.Ab
open Go Go.RowKit

/-- A value of the document: its kids are such values. -/
structure V where
  kind : Int
  b : Bool
  n : Int
  s : List UInt8
  names : List (List UInt8)
  kids : List V

/-- An error. -/
inductive Er where
  | nil | prob (c a : Int) | wrap (e : Er) (s : List UInt8) | inp (e : Er) (n : Int)

def Er.isNil : Er → Bool
  | .nil => true
  | _ => false

inductive Ty where
  | bool | int (k : IntKind) | str | slice (e : Ty) | unit | pair (a b : Ty) | arr (n : Nat) (e : Ty) | value | ref (e : Ty) | map (k v : Ty) | err
  deriving DecidableEq

/-- What data of a type are, in Lean. -/
@[reducible] def Ty.I : Ty → Type
  | .bool => Bool
  | .int _ => Int
  | .str => List UInt8
  | .slice e => List e.I
  | .unit => Unit
  | .pair a b => a.I × b.I
  | .arr _ e => List e.I
  | .value => V
  | .ref e => Option e.I
  | .map k v => List (k.I × v.I)
  | .err => Er

def Ty.sz : Ty → Nat
  | .bool | .int _ | .str | .slice _ | .ref _ | .map _ _ | .err => 1
  | .unit => 0
  | .pair a b => a.sz + b.sz
  | .arr n e => n * e.sz
  | .value => 6

def Ty.isAgg : Ty → Bool
  | .bool | .int _ | .str | .slice _ | .ref _ | .map _ _ | .err => false
  | _ => true

abbrev strV (s : List UInt8) : Value := .string ⟨s.toArray⟩

/-- A row of things, each with its cells. -/
def RepL {α : Type} (R : α → List Value → Prop) : List α → List Value → Prop
  | [], cs => cs = []
  | x :: xs, cs => ∃ c d, cs = c ++ d ∧ R x c ∧ RepL R xs d

theorem RepL.mono {α : Type} {R R' : α → List Value → Prop} (h : ∀ x cs, R x cs → R' x cs) : ∀ {xs : List α} {cs}, RepL R xs cs → RepL R' xs cs
  | [], _, hh => hh
  | _ :: _, _, ⟨c, d, e, r, rest⟩ => ⟨c, d, e, h _ _ r, RepL.mono h rest⟩

theorem RepL.append {α : Type} {R : α → List Value → Prop} : ∀ {xs ys : List α} {cs ds}, RepL R xs cs → RepL R ys ds → RepL R (xs ++ ys) (cs ++ ds)
  | [], _, _, _, h, k => by cases h; exact k
  | x :: xs, ys, _, ds, ⟨c, d, e, r, rest⟩, k => ⟨c, d ++ ds, by rw [e, List.append_assoc], r, RepL.append rest k⟩

theorem RepL.length {α : Type} {R : α → List Value → Prop} {n : Nat} (h : ∀ x cs, R x cs → cs.length = n) : ∀ {xs : List α} {cs}, RepL R xs cs → cs.length = xs.length * n
  | [], _, hh => by cases hh; simp
  | _ :: xs, _, ⟨c, d, e, r, rest⟩ => by rw [e, List.length_append, h _ _ r, RepL.length h rest, List.length_cons, Nat.succ_mul]; omega

/-- The thing at a place. -/
theorem RepL.get {α : Type} {R : α → List Value → Prop} {n : Nat} (h : ∀ x cs, R x cs → cs.length = n) : ∀ {xs : List α} {cs} (i : Nat) (x : α), RepL R xs cs → xs[i]? = some x →
    ∃ c, R x c ∧ ∀ j, j < n → cs[i * n + j]? = c[j]?
  | [], _, _, _, _, hi => by simp at hi
  | y :: xs, _, 0, x, ⟨c, d, e, r, rest⟩, hi => by
    simp at hi; subst hi
    refine ⟨c, r, fun j hj => ?_⟩
    have := h _ _ r
    rw [e, List.getElem?_append_left (by omega)]; simp
  | y :: xs, _, i + 1, x, ⟨c, d, e, r, rest⟩, hi => by
    simp at hi
    obtain ⟨c', r', hc⟩ := RepL.get h i x rest hi
    refine ⟨c', r', fun j hj => ?_⟩
    have hl := h _ _ r
    rw [e, List.getElem?_append_right (by rw [hl, Nat.succ_mul]; omega), ← hc j hj, hl]
    congr 1
    rw [Nat.succ_mul]; omega

/-- One thing exchanged. -/
theorem RepL.set {α : Type} {R : α → List Value → Prop} {n : Nat} (h : ∀ x cs, R x cs → cs.length = n) : ∀ {xs : List α} {cs} (i : Nat) (x : α) (c : List Value), RepL R xs cs → R x c → i < xs.length →
    RepL R (xs.set i x) (cs.take (i * n) ++ c ++ cs.drop (i * n + n))
  | [], _, _, _, _, _, _, hi => by simp at hi
  | y :: xs, _, 0, x, c', ⟨c, d, e, r, rest⟩, rc, hi => by
    have hl := h _ _ r
    refine ⟨c', d, ?_, rc, rest⟩
    subst e
    simp [hl]
  | y :: xs, _, i + 1, x, c', ⟨c, d, e, r, rest⟩, rc, hi => by
    have hl := h _ _ r
    have ih := RepL.set h i x c' rest rc (by simpa using hi)
    refine ⟨c, _, ?_, r, ih⟩
    subst e
    have e1 : (i + 1) * n = c.length + i * n := by rw [Nat.succ_mul, hl]; omega
    rw [e1, List.take_append, List.drop_append]
    simp [List.take_of_length_le, List.drop_eq_nil_of_le, Nat.add_assoc, Nat.add_sub_cancel_left, show c.length ≤ c.length + (i * n + n) by omega]

/-- A slice value, and what it reads as, in blocks that are sealed. -/
def SlRep {α : Type} (S : Nat → Prop) (w : World) (R : α → List Value → Prop) (xs : List α) (v : Value) : Prop :=
  (v = .slice none 0 0 ∧ xs = []) ∨
  ∃ a cap cs, v = .slice (some a) xs.length cap ∧ xs.length ≤ cap ∧ RepL R xs cs ∧ ∀ j u, cs[j]? = some u → S a.block ∧ w.cell? (a.add j) = some u

def StrRep (x : List UInt8) (cs : List Value) : Prop := cs = [strV x]

mutual
inductive RepV (S : Nat → Prop) (w : World) : V → List Value → Prop
  | nil (k : Int) (b : Bool) (n : Int) (s : List UInt8) (names : List (List UInt8)) (v1 : Value) (h : SlRep S w StrRep names v1) :
      RepV S w ⟨k, b, n, s, names, []⟩ [.int .i64 k, .bool b, .int .i64 n, strV s, v1, .slice none 0 0]
  | some (k : Int) (b : Bool) (n : Int) (s : List UInt8) (names : List (List UInt8)) (v1 : Value) (h : SlRep S w StrRep names v1)
      (kids : List V) (a : Addr) (cap : Nat) (cs : List Value) (hk : RepVs S w kids cs) (hc : kids.length ≤ cap) (hr : ∀ j u, cs[j]? = some u → S a.block ∧ w.cell? (a.add j) = some u) :
      RepV S w ⟨k, b, n, s, names, kids⟩ [.int .i64 k, .bool b, .int .i64 n, strV s, v1, .slice (some a) kids.length cap]
inductive RepVs (S : Nat → Prop) (w : World) : List V → List Value → Prop
  | nil : RepVs S w [] []
  | cons (v : V) (vs : List V) (c d : List Value) (h : RepV S w v c) (k : RepVs S w vs d) : RepVs S w (v :: vs) (c ++ d)
end

theorem RepVs.toL {S : Nat → Prop} {w : World} : ∀ {vs : List V} {cs}, RepVs S w vs cs → RepL (RepV S w) vs cs
  | [], _, h => by cases h; rfl
  | _ :: _, _, .cons _ _ c d h k => ⟨c, d, rfl, h, k.toL⟩
theorem RepVs.ofL {S : Nat → Prop} {w : World} : ∀ {vs : List V} {cs}, RepL (RepV S w) vs cs → RepVs S w vs cs
  | [], _, h => by cases h; exact .nil
  | _ :: _, _, ⟨_, _, e, h, k⟩ => e ▸ .cons _ _ _ _ h (RepVs.ofL k)

/-- The fields of a value. -/
theorem RepV.open {S : Nat → Prop} {w : World} {v : V} {cs : List Value} (h : RepV S w v cs) :
    ∃ v1 v2, cs = [.int .i64 v.kind, .bool v.b, .int .i64 v.n, strV v.s, v1, v2] ∧ SlRep S w StrRep v.names v1 ∧ SlRep S w (RepV S w) v.kids v2 := by
  cases h with
  | nil k b n s names v1 h => exact ⟨v1, _, rfl, h, .inl ⟨rfl, rfl⟩⟩
  | some k b n s names v1 h kids a cap cs hk hc hr => exact ⟨v1, _, rfl, h, .inr ⟨a, cap, cs, rfl, hc, hk.toL, hr⟩⟩
theorem RepV.shut {S : Nat → Prop} {w : World} (k : Int) (b : Bool) (n : Int) (s : List UInt8) {names : List (List UInt8)} {kids : List V} {v1 v2 : Value}
    (h1 : SlRep S w StrRep names v1) (h2 : SlRep S w (RepV S w) kids v2) : RepV S w ⟨k, b, n, s, names, kids⟩ [.int .i64 k, .bool b, .int .i64 n, strV s, v1, v2] := by
  rcases h2 with ⟨rfl, rfl⟩ | ⟨a, cap, cs, rfl, hc, hk, hr⟩
  · exact .nil _ _ _ _ _ _ h1
  · exact .some _ _ _ _ _ _ h1 _ _ _ _ (RepVs.ofL hk) hc hr

/-- A pointer, and what it leads to, in blocks that are sealed. -/
def RefRep {α : Type} (S : Nat → Prop) (w : World) (R : α → List Value → Prop) (x : Option α) (v : Value) : Prop :=
  (v = .pointer none ∧ x = none) ∨
  ∃ a cs y, v = .pointer (some a) ∧ x = some y ∧ R y cs ∧ ∀ j u, cs[j]? = some u → S a.block ∧ w.cell? (a.add j) = some u

/-- Cells as one value. -/
def wrapV (agg : Bool) (cs : List Value) (v : Value) : Prop := if agg = true then v = .agg cs.toArray else cs = [v] ∧ v.oneCell' = true

/-- A map's entries. -/
def EntRep {α β : Type} (ka va : Bool) (RK : α → List Value → Prop) (RV : β → List Value → Prop) : List (α × β) → List MapEntry → Prop
  | [], es => es = []
  | p :: ps, es => ∃ e r, es = e :: r ∧ (∃ cs, RK p.1 cs ∧ wrapV ka cs e.key) ∧ (∃ cs, RV p.2 cs ∧ wrapV va cs e.val) ∧ EntRep ka va RK RV ps r

theorem EntRep.mono {α β : Type} {ka va : Bool} {RK RK' : α → List Value → Prop} {RV RV' : β → List Value → Prop} (hK : ∀ x cs, RK x cs → RK' x cs) (hV : ∀ x cs, RV x cs → RV' x cs) :
    ∀ {ps : List (α × β)} {es}, EntRep ka va RK RV ps es → EntRep ka va RK' RV' ps es
  | [], _, h => h
  | _ :: _, _, ⟨e, r, h, ⟨c, h1, h2⟩, ⟨d, h3, h4⟩, h5⟩ => ⟨e, r, h, ⟨c, hK _ _ h1, h2⟩, ⟨d, hV _ _ h3, h4⟩, h5.mono hK hV⟩

/-- A map, and what it holds, in a block that is sealed. -/
def MapRep {α β : Type} (S : Nat → Prop) (w : World) (ka va : Bool) (RK : α → List Value → Prop) (RV : β → List Value → Prop) (xs : List (α × β)) (v : Value) : Prop :=
  (v = .map none ∧ xs = []) ∨ ∃ b es clock, v = .map (some b) ∧ S b ∧ w.heap[b]? = some (.map es clock) ∧ EntRep ka va RK RV xs es.toList

/-- An error as it lies in blocks that are sealed. -/
def ErrRep (S : Nat → Prop) (w : World) : Er → Value → Prop
  | .nil, v => v = .nilIface
  | .prob c a, v => ∃ b, v = .iface errT.1 (.pointer (some ⟨b, 0, none⟩)) ∧ S b ∧ w.cell? ⟨b, 0, none⟩ = some (.int .i64 c) ∧ w.cell? ⟨b, 1, none⟩ = some (.int .i64 a)
  | .wrap e s, v => e.isNil = false ∧ ∃ b u, v = .iface errT.2.1 (.pointer (some ⟨b, 0, none⟩)) ∧ S b ∧ w.cell? ⟨b, 0, none⟩ = some u ∧ w.cell? ⟨b, 1, none⟩ = some (strV s) ∧ ErrRep S w e u
  | .inp e n, v => e.isNil = false ∧ ∃ b u, v = .iface errT.2.2 (.pointer (some ⟨b, 0, none⟩)) ∧ S b ∧ w.cell? ⟨b, 0, none⟩ = some u ∧ w.cell? ⟨b, 1, none⟩ = some (.int .i64 n) ∧ ErrRep S w e u

theorem ErrRep.plain {S : Nat → Prop} {w : World} {e : Er} {v : Value} (h : ErrRep S w e v) : v.oneCell' = true := by
  cases e with
  | nil => rw [show v = .nilIface from h]; rfl
  | prob c a => obtain ⟨b, rfl, _⟩ := h; rfl
  | wrap e s => obtain ⟨_, b, u, rfl, _⟩ := h; rfl
  | inp e n => obtain ⟨_, b, u, rfl, _⟩ := h; rfl

/-- The cells of data of a type. -/
def RepC (S : Nat → Prop) (w : World) : (τ : Ty) → τ.I → List Value → Prop
  | .bool, b, cs => cs = [.bool b]
  | .int k, n, cs => cs = [.int k n]
  | .str, s, cs => cs = [strV s]
  | .slice e, xs, cs => ∃ v, cs = [v] ∧ SlRep S w (RepC S w e) xs v
  | .unit, _, cs => cs = []
  | .pair a b, x, cs => ∃ c d, cs = c ++ d ∧ RepC S w a x.1 c ∧ RepC S w b x.2 d
  | .arr n e, xs, cs => xs.length = n ∧ RepL (RepC S w e) xs cs
  | .value, v, cs => RepV S w v cs
  | .ref e, x, cs => ∃ v, cs = [v] ∧ RefRep S w (RepC S w e) x v
  | .map k e, xs, cs => ∃ v, cs = [v] ∧ MapRep S w k.isAgg e.isAgg (RepC S w k) (RepC S w e) xs v
  | .err, e, cs => ∃ v, cs = [v] ∧ ErrRep S w e v

theorem RepC.length {S : Nat → Prop} {w : World} : ∀ {τ : Ty} {x : τ.I} {cs : List Value}, RepC S w τ x cs → cs.length = τ.sz
  | .bool, _, _, h | .int _, _, _, h | .str, _, _, h => by simp only [RepC] at h; subst h; rfl
  | .unit, _, _, h => by simp only [RepC] at h; subst h; rfl
  | .slice _, _, _, h | .ref _, _, _, h | .map _ _, _, _, h | .err, _, _, h => by obtain ⟨v, rfl, _⟩ := h; rfl
  | .pair a b, _, _, h => by obtain ⟨c, d, rfl, h1, h2⟩ := h; simp [Ty.sz, RepC.length h1, RepC.length h2]
  | .arr n e, _, _, h => by obtain ⟨h1, h2⟩ := h; rw [RepL.length (fun _ _ h => RepC.length h) h2, h1]; rfl
  | .value, _, _, h => by obtain ⟨_, _, rfl, _⟩ := RepV.open h; rfl

/-- What is sealed stays as it is. -/
structure Keep (S : Nat → Prop) (w : World) (S' : Nat → Prop) (w' : World) : Prop where
  sub : ∀ b, S b → S' b
  same : ∀ b, S b → w'.heap[b]? = w.heap[b]?

theorem Keep.refl (S : Nat → Prop) (w : World) : Keep S w S w := ⟨fun _ h => h, fun _ _ => rfl⟩
theorem Keep.trans {S S' S'' : Nat → Prop} {w w' w'' : World} (h : Keep S w S' w') (k : Keep S' w' S'' w'') : Keep S w S'' w'' :=
  ⟨fun b hb => k.sub b (h.sub b hb), fun b hb => (k.same b (h.sub b hb)).trans (h.same b hb)⟩
theorem Keep.cell {S S' : Nat → Prop} {w w' : World} (h : Keep S w S' w') {a : Addr} (ha : S a.block) : w'.cell? a = w.cell? a := World.cell?_of_block (h.same _ ha)

theorem add_block (a : Addr) (j : Nat) : (a.add j).block = a.block := by unfold Addr.add; split <;> rfl

theorem SlRep.mono {α : Type} {S S' : Nat → Prop} {w w' : World} (hk : Keep S w S' w') {R R' : α → List Value → Prop} (hR : ∀ x cs, R x cs → R' x cs) {xs : List α} {v : Value} (h : SlRep S w R xs v) :
    SlRep S' w' R' xs v := by
  rcases h with h | ⟨a, cap, cs, e, hc, hl, hr⟩
  · exact .inl h
  · exact .inr ⟨a, cap, cs, e, hc, hl.mono hR, fun j u hj => ⟨hk.sub _ (hr j u hj).1, (hk.cell (a := a.add j) (by rw [add_block]; exact (hr j u hj).1)).trans (hr j u hj).2⟩⟩

theorem RefRep.mono {α : Type} {S S' : Nat → Prop} {w w' : World} (hk : Keep S w S' w') {R R' : α → List Value → Prop} (hR : ∀ x cs, R x cs → R' x cs) {x : Option α} {v : Value} (h : RefRep S w R x v) :
    RefRep S' w' R' x v := by
  rcases h with h | ⟨a, cs, y, e, e2, hl, hr⟩
  · exact .inl h
  · exact .inr ⟨a, cs, y, e, e2, hR _ _ hl, fun j u hj => ⟨hk.sub _ (hr j u hj).1, (hk.cell (a := a.add j) (by rw [add_block]; exact (hr j u hj).1)).trans (hr j u hj).2⟩⟩

theorem MapRep.mono {α β : Type} {S S' : Nat → Prop} {w w' : World} (hk : Keep S w S' w') {ka va : Bool} {RK RK' : α → List Value → Prop} {RV RV' : β → List Value → Prop} (hK : ∀ x cs, RK x cs → RK' x cs) (hV : ∀ x cs, RV x cs → RV' x cs)
    {xs : List (α × β)} {v : Value} (h : MapRep S w ka va RK RV xs v) : MapRep S' w' ka va RK' RV' xs v := by
  rcases h with h | ⟨b, es, cl, e, hs, hb, he⟩
  · exact .inl h
  · exact .inr ⟨b, es, cl, e, hk.sub _ hs, (hk.same _ hs).trans hb, he.mono hK hV⟩

theorem ErrRep.mono {S S' : Nat → Prop} {w w' : World} (hk : Keep S w S' w') : ∀ {e : Er} {v : Value}, ErrRep S w e v → ErrRep S' w' e v
  | .nil, _, h => h
  | .prob _ _, _, ⟨b, h1, h2, h3, h4⟩ => ⟨b, h1, hk.sub _ h2, (hk.cell (a := ⟨b, 0, none⟩) h2).trans h3, (hk.cell (a := ⟨b, 1, none⟩) h2).trans h4⟩
  | .wrap _ _, _, ⟨h0, b, u, h1, h2, h3, h4, h5⟩ => ⟨h0, b, u, h1, hk.sub _ h2, (hk.cell (a := ⟨b, 0, none⟩) h2).trans h3, (hk.cell (a := ⟨b, 1, none⟩) h2).trans h4, h5.mono hk⟩
  | .inp _ _, _, ⟨h0, b, u, h1, h2, h3, h4, h5⟩ => ⟨h0, b, u, h1, hk.sub _ h2, (hk.cell (a := ⟨b, 0, none⟩) h2).trans h3, (hk.cell (a := ⟨b, 1, none⟩) h2).trans h4, h5.mono hk⟩

mutual
theorem RepV.mono {S S' : Nat → Prop} {w w' : World} (hk : Keep S w S' w') : ∀ {v : V} {cs}, RepV S w v cs → RepV S' w' v cs
  | _, _, .nil k b n s names v1 h => .nil k b n s names v1 (h.mono hk fun _ _ h => h)
  | _, _, .some k b n s names v1 h kids a cap cs hv hc hr =>
    .some k b n s names v1 (h.mono hk fun _ _ h => h) kids a cap cs (RepVs.mono hk hv) hc fun j u hj => ⟨hk.sub _ (hr j u hj).1, (hk.cell (a := a.add j) (by rw [add_block]; exact (hr j u hj).1)).trans (hr j u hj).2⟩
theorem RepVs.mono {S S' : Nat → Prop} {w w' : World} (hk : Keep S w S' w') : ∀ {vs : List V} {cs}, RepVs S w vs cs → RepVs S' w' vs cs
  | _, _, .nil => .nil
  | _, _, .cons v vs c d h k => .cons v vs c d (RepV.mono hk h) (RepVs.mono hk k)
end

theorem RepC.mono {S S' : Nat → Prop} {w w' : World} (hk : Keep S w S' w') : ∀ {τ : Ty} {x : τ.I} {cs}, RepC S w τ x cs → RepC S' w' τ x cs
  | .bool, _, _, h | .int _, _, _, h | .str, _, _, h | .unit, _, _, h => h
  | .slice _, _, _, ⟨v, e, h⟩ => ⟨v, e, h.mono hk fun _ _ h => RepC.mono hk h⟩
  | .pair _ _, _, _, ⟨c, d, e, h1, h2⟩ => ⟨c, d, e, RepC.mono hk h1, RepC.mono hk h2⟩
  | .arr _ _, _, _, ⟨h1, h2⟩ => ⟨h1, h2.mono fun _ _ h => RepC.mono hk h⟩
  | .value, _, _, h => RepV.mono hk h
  | .ref _, _, _, ⟨v, e, h⟩ => ⟨v, e, h.mono hk fun _ _ h => RepC.mono hk h⟩
  | .map _ _, _, _, ⟨v, e, h⟩ => ⟨v, e, h.mono hk (fun _ _ h => RepC.mono hk h) fun _ _ h => RepC.mono hk h⟩
  | .err, _, _, ⟨v, e, h⟩ => ⟨v, e, h.mono hk⟩

/-- No cell of data is a struct or a tuple. -/
def plainCell : Value → Bool
  | .agg _ | .tuple _ => false
  | _ => true

theorem RepL.all {α : Type} {R : α → List Value → Prop} {p : Value → Prop} (h : ∀ x cs, R x cs → ∀ u ∈ cs, p u) : ∀ {xs : List α} {cs}, RepL R xs cs → ∀ u ∈ cs, p u
  | [], _, hh => by cases hh; simp
  | _ :: _, _, ⟨c, d, e, r, rest⟩ => by
    subst e
    intro u hu
    rcases List.mem_append.1 hu with hu | hu
    · exact h _ _ r u hu
    · exact RepL.all h rest u hu

theorem SlRep.plain {α : Type} {S : Nat → Prop} {w : World} {R : α → List Value → Prop} {xs : List α} {v : Value} (h : SlRep S w R xs v) : v.oneCell' = true := by
  rcases h with ⟨rfl, _⟩ | ⟨a, cap, cs, rfl, _⟩ <;> rfl

theorem RefRep.plain {α : Type} {S : Nat → Prop} {w : World} {R : α → List Value → Prop} {x : Option α} {v : Value} (h : RefRep S w R x v) : v.oneCell' = true := by
  rcases h with ⟨rfl, _⟩ | ⟨a, cs, y, rfl, _⟩ <;> rfl
theorem MapRep.plain {α β : Type} {S : Nat → Prop} {w : World} {ka va : Bool} {RK : α → List Value → Prop} {RV : β → List Value → Prop} {xs : List (α × β)} {v : Value} (h : MapRep S w ka va RK RV xs v) : v.oneCell' = true := by
  rcases h with ⟨rfl, _⟩ | ⟨b, es, cl, rfl, _⟩ <;> rfl

theorem RepC.plain {S : Nat → Prop} {w : World} : ∀ {τ : Ty} {x : τ.I} {cs}, RepC S w τ x cs → ∀ u ∈ cs, u.oneCell' = true
  | .bool, _, _, h | .int _, _, _, h | .str, _, _, h => by simp only [RepC] at h; subst h; simp [Value.oneCell']
  | .unit, _, _, h => by simp only [RepC] at h; subst h; simp
  | .slice _, _, _, ⟨v, e, h⟩ | .ref _, _, _, ⟨v, e, h⟩ | .map _ _, _, _, ⟨v, e, h⟩ | .err, _, _, ⟨v, e, h⟩ => by subst e; simpa using h.plain
  | .pair _ _, _, _, ⟨c, d, e, h1, h2⟩ => by
    subst e; intro u hu
    rcases List.mem_append.1 hu with hu | hu
    · exact RepC.plain h1 u hu
    · exact RepC.plain h2 u hu
  | .arr _ _, _, _, ⟨_, h2⟩ => RepL.all (fun _ _ h => RepC.plain h) h2
  | .value, _, _, h => by
    obtain ⟨v1, v2, rfl, h1, h2⟩ := RepV.open h
    intro u hu
    simp at hu
    rcases hu with rfl | rfl | rfl | rfl | rfl | rfl <;> first | rfl | exact h1.plain | exact h2.plain

end Go.Proofs.YtllhidkadhoipaaDoor.Ab
